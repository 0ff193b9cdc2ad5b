import JvmDerived
import JvmDerived.Pilot.@@N@@Statement
import JvmDerived.Pilot.@@N@@Code
set_option linter.unusedVariables false
set_option linter.unusedSimpArgs false
namespace Jvm.Pilot.@@N@@
open Jvm Jvm.ClassFile Sem Op Lib Jvm.Free Jvm.Stand Jvm.LawKit Jvm.RoadKit Bundle Jvm.Pilot.@@N@@.Jvm.D
/-! ## own kit, part 0: words, small numbers -/
theorem wd {a0 : Array Value} {Z : State} (hw : ∀ d ∈ tables_1, d.before a0 Z = true) (k : Nat) {d : Jvm.Cond} (h : tables_1[k]? = some d) : d.before a0 Z = true := hw d (List.mem_of_getElem? h)
theorem own_hn {fs : List (String × String × String × Value)} {nm : List String} {j : Nat} {f : String × String × String × Value} (hj : fs[j]? = some f) (h : fs.map (fun z => z.2.1) = nm) (hN : nm.Nodup) : ∀ i f', fs[i]? = some f' → i ≠ j → f'.2.1 ≠ f.2.1 := fun i f' hi q e => by
  subst h
  have a1 : (fs.map (fun z => z.2.1))[i]? = some f'.2.1 := by rw [List.getElem?_map, hi]; rfl
  have a2 : (fs.map (fun z => z.2.1))[j]? = some f.2.1 := by rw [List.getElem?_map, hj]; rfl
  obtain ⟨l1, e1⟩ := List.getElem?_eq_some_iff.mp a1
  obtain ⟨l2, e2⟩ := List.getElem?_eq_some_iff.mp a2
  exact q ((List.getElem_inj hN).mp (e1.trans (e.trans e2.symm)))
theorem own_fld {args : Array Value} {s : State} {t b : Term} {C n d : String} {v : Value} {a : Addr} (ev : t.eval args s none [] s = some (.ref a)) (hb : b.eval args s none [] s = some v) (h : (Jvm.Cond.eq (Term.field t C n d) b).value args s none s [] = some true) : Fld s s.heap a C n d v := by
  have e := fld_at (C := C) (n := n) (dd := d) ev
  cases hf : s.fieldOf? a C n d with
  | none => rw [hf] at e; simp [Cond.value, e] at h
  | some w =>
    rw [hf] at e
    have : w = v := by
      cases w <;> cases v <;> simp [Cond.value, e, hb] at h ⊢ <;> exact h
    subst this
    exact Fld.start hf
theorem own_rem (x k : Int32) (hk : 0 < k.toInt) : 0 ≤ ((x &&& 2147483647) % k).toInt ∧ ((x &&& 2147483647) % k).toInt < k.toInt := by
  have h := (c_andS x 2147483647).2.2 (by decide)
  rw [Int32.toInt_mod]
  exact ⟨Int.tmod_nonneg _ h, Int.tmod_lt_of_pos _ hk⟩
theorem own_mask (x m : Int32) (hm : 0 ≤ m.toInt) : 0 ≤ (x &&& m).toInt ∧ (x &&& m).toInt ≤ m.toInt := by
  have h1 := (c_andS x m).2.2 hm
  refine ⟨h1, ?_⟩
  have q : (x &&& m).toBitVec.toNat ≤ m.toBitVec.toNat := by rw [Int32.toBitVec_and, BitVec.toNat_and]; exact Nat.and_le_right
  change 0 ≤ m.toBitVec.toInt at hm
  change 0 ≤ (x &&& m).toBitVec.toInt at h1
  show (x &&& m).toBitVec.toInt ≤ m.toBitVec.toInt
  rw [BitVec.toInt_eq_toNat_cond] at hm h1 ⊢
  rw [BitVec.toInt_eq_toNat_cond (x := m.toBitVec)]
  split at hm <;> split at h1 <;> split <;> omega
theorem own_nz {x : Int32} (h : x = 0 ∨ x = 1) : narrow .boolean (.int x) = .int x ∧ fits .boolean (.int x) = true := by rcases h with rfl | rfl <;> exact ⟨rfl, rfl⟩
theorem own_b01 {c : Prop} [Decidable c] {b : Int32} (h : b = if c then 0 else 1) : b = 0 ∨ b = 1 := by subst h; split <;> simp
theorem own_cat {v : Value} (h : v.isRef = true) : v.category = 1 := by cases v <;> first | rfl | cases h
theorem own_cI (x : Int32) : (Value.int x).category = 1 := rfl
theorem own_cJ (x : Int64) : (Value.long x).category = 2 := rfl
theorem own_cR (x : Addr) : (Value.ref x).category = 1 := rfl
theorem own_cN : Value.null.category = 1 := rfl
/-! ## own kit, part 1: objects of the law's own heap -/
abbrev OFld := String × String × String × Value
abbrev OObj := (String × List OFld) ⊕ (String × FieldType × List Value)
abbrev OHp := List (Addr × OObj)
abbrev ob (C : String) (fs : List OFld) : OObj := Sum.inl (C, fs)
abbrev ar (D : String) (ty : FieldType) (vs : List Value) : OObj := Sum.inr (D, ty, vs)
def OKo (Z : State) (a0 : Array Value) (h : Heap) (a : Addr) (C : String) (fs : List OFld) : Prop := Exa Z h a C ∧ ∀ f ∈ fs, Laid Z a0 C f.1 f.2.1 f.2.2.1 ∧ (∃ t, parseFieldDescriptor f.2.2.1 = some t) ∧ Fld Z h a f.1 f.2.1 f.2.2.1 f.2.2.2
def OKa (Z : State) (h : Heap) (a : Addr) (D : String) (ty : FieldType) (vs : List Value) : Prop := ∃ c : Cell, Arr Z h a c ty ∧ c.slots = vs.toArray ∧ vs.length < 2 ^ 31 ∧ Z.vm.findClass D = some c.cls ∧ ∀ v ∈ vs, fits ty v = true
def OK (Z : State) (a0 : Array Value) (h : Heap) (a : Addr) (o : OObj) : Prop := match o with
  | .inl (C, fs) => OKo Z a0 h a C fs
  | .inr (D, ty, vs) => OKa Z h a D ty vs
def Hp (Z : State) (a0 : Array Value) (h0 hS : Heap) (ws : List Addr) (h : Heap) (H : OHp) : Prop :=
  Ext h0 h ∧ Keep hS h ws ∧ (∀ (i : Nat) (x : Addr × OObj), H[i]? = some x → h0.size ≤ x.1 ∧ (x.1 ∈ ws ∨ hS.size ≤ x.1) ∧ OK Z a0 h x.1 x.2) ∧ ∀ (i j : Nat) (x y : Addr × OObj), H[i]? = some x → H[j]? = some y → x.1 = y.1 → i = j
section Own
variable {Z : State} {a0 : Array Value} {h0 hS h h' : Heap} {ws : List Addr} {H : OHp} {a : Addr} {o : OObj} {C D O n d : String} {fs : List OFld} {ty : FieldType} {vs : List Value} {v : Value}
theorem OKa.exa (A : OKa Z h a D ty vs) : Exa Z h a D := by
  obtain ⟨c, A, -, -, hf, -⟩ := A
  obtain ⟨-, k, hk, comp, hkind⟩ := A.2.1
  exact ⟨c, k, A.1, hf, hk, A.plain, fun q => by rw [hkind] at q; cases q⟩
theorem OK.lt (A : OK Z a0 h a o) : a < h.size := by
  rcases o with ⟨C, fs⟩ | ⟨D, ty, vs⟩
  · exact A.1.lt
  · obtain ⟨c, A, -⟩ := A; exact A.lt
theorem OK.ext (A : OK Z a0 h a o) (E : Ext h h') : OK Z a0 h' a o := by
  rcases o with ⟨C, fs⟩ | ⟨D, ty, vs⟩
  · exact ⟨A.1.ext E, fun f hf => ⟨(A.2 f hf).1, (A.2 f hf).2.1, (A.2 f hf).2.2.ext E⟩⟩
  · obtain ⟨c, A, r⟩ := A; exact ⟨c, A.ext E, r⟩
theorem OK.keep {us : List Addr} (A : OK Z a0 h a o) (K : Keep h h' us) (q : a ∉ us) : OK Z a0 h' a o := by
  rcases o with ⟨C, fs⟩ | ⟨D, ty, vs⟩
  · exact ⟨A.1.keep K, fun f hf => ⟨(A.2 f hf).1, (A.2 f hf).2.1, (A.2 f hf).2.2.keep K q⟩⟩
  · obtain ⟨c, A, r⟩ := A; exact ⟨c, ⟨K.2.1 a c A.1 q, A.2⟩, r⟩
theorem OKo.put {j : Nat} (A : OKo Z a0 h a C fs) {w : Value} (hj : fs[j]? = some (O, n, d, w)) (hn : ∀ i f, fs[i]? = some f → i ≠ j → f.2.1 ≠ n) (W : Wr h h' a (Jvm.RoadKit.slotOf Z O n d) v) : OKo Z a0 h' a C (fs.set j (O, n, d, v)) := by
  obtain ⟨E, F⟩ := A
  refine ⟨E.wr W, fun f hf => ?_⟩
  obtain ⟨i, hi⟩ := List.mem_iff_getElem?.mp hf
  obtain ⟨l1, ⟨t1, p1⟩, f1⟩ := F _ (List.mem_of_getElem? hj)
  rw [List.getElem?_set] at hi
  by_cases q : j = i
  · subst q
    have hlt : j < fs.length := (List.getElem?_eq_some_iff.mp hj).1
    simp only [if_true, hlt] at hi
    cases hi
    exact ⟨l1, ⟨t1, p1⟩, f1.same W⟩
  · rw [if_neg q] at hi
    obtain ⟨l2, ⟨t2, p2⟩, f2⟩ := F _ (List.mem_of_getElem? hi)
    exact ⟨l2, ⟨t2, p2⟩, f2.other W (Or.inr (slot_ne l2 l1 (hn i f hi (Ne.symm q)) p2 p1))⟩
theorem OKa.store {j : Nat} (A : OKa Z h a D ty vs) (W : Wr h h' a j v) (hv : fits ty v = true) : OKa Z h' a D ty (vs.set j v) := by
  obtain ⟨c, A, hs, hl, hf, hfit⟩ := A
  refine ⟨_, A.same W, ?_, by simpa using hl, hf, fun u hu => ?_⟩
  · simp [Cell.setSlot, hs]
  · rcases List.mem_or_eq_of_mem_set hu with q | q
    · exact hfit u q
    · exact q ▸ hv
theorem Hp.ne (A : Hp Z a0 h0 hS ws h H) {i j : Nat} {x y : Addr × OObj} (hi : H[i]? = some x) (hj : H[j]? = some y) (q : i ≠ j) : x.1 ≠ y.1 := fun e => q (A.2.2.2 i j x y hi hj e)
theorem Hp.at {i : Nat} (A : Hp Z a0 h0 hS ws h H) (hi : H[i]? = some (a, o)) : OK Z a0 h a o := (A.2.2.1 i _ hi).2.2
/-- one cell is written -/
theorem Hp.wr {i sl : Nat} {o' : OObj} (A : Hp Z a0 h0 hS ws h H) (hi : H[i]? = some (a, o)) (W : Wr h h' a sl v) (hO : OK Z a0 h' a o') : Hp Z a0 h0 hS ws h' (H.set i (a, o')) := by
  obtain ⟨E, K, F, I⟩ := A
  have hge := (F i _ hi)
  have hlt : i < H.length := (List.getElem?_eq_some_iff.mp hi).1
  have key : ∀ (k : Nat) (x : Addr × OObj), (H.set i (a, o'))[k]? = some x → ∃ x0 : Addr × OObj, H[k]? = some x0 ∧ x0.1 = x.1 := fun k x hk => by
    rw [List.getElem?_set] at hk
    by_cases q : i = k
    · subst q; simp only [if_true, hlt] at hk; cases hk; exact ⟨_, hi, rfl⟩
    · rw [if_neg q] at hk; exact ⟨x, hk, rfl⟩
  refine ⟨?_, K.wr W hge.2.1, fun k x hk => ?_, fun k1 k2 x y h1 h2 e => ?_⟩
  · have K2 := Keep.of_wr W
    refine ⟨Nat.le_trans E.1 K2.1, fun x c hx => K2.2.1 x c (E.2 x c hx) fun q => ?_⟩
    have := (Array.getElem?_eq_some_iff.mp hx).1
    cases List.mem_singleton.mp q
    have := hge.1
    omega
  · rw [List.getElem?_set] at hk
    by_cases q : i = k
    · subst q; simp only [if_true, hlt] at hk; cases hk; exact ⟨hge.1, hge.2.1, hO⟩
    · rw [if_neg q] at hk
      refine ⟨(F k x hk).1, (F k x hk).2.1, (F k x hk).2.2.keep (Keep.of_wr W) fun z => ?_⟩
      exact q (I i k _ _ hi hk (List.mem_singleton.mp z).symm)
  · obtain ⟨x0, e1, e2⟩ := key k1 x h1
    obtain ⟨y0, e3, e4⟩ := key k2 y h2
    exact I k1 k2 _ _ e1 e3 (by rw [e2, e4, e])
/-- a new cell -/
theorem Hp.new (A : Hp Z a0 h0 hS ws h H) (E' : Ext h h') (hO : OK Z a0 h' h.size o) : Hp Z a0 h0 hS ws h' (H ++ [(h.size, o)]) := by
  obtain ⟨E, K, F, I⟩ := A
  have key : ∀ (k : Nat) (x : Addr × OObj), (H ++ [(h.size, o)])[k]? = some x → (k < H.length ∧ H[k]? = some x) ∨ (k = H.length ∧ x = (h.size, o)) := fun k x hk => by
    rw [List.getElem?_append] at hk
    split at hk
    · rename_i q; exact Or.inl ⟨q, hk⟩
    · rename_i q
      rcases Nat.eq_or_lt_of_le (Nat.le_of_not_lt q) with e | e
      · subst e; simp at hk; exact Or.inr ⟨rfl, hk.symm⟩
      · rw [List.getElem?_eq_none (by simp; omega)] at hk; cases hk
  refine ⟨⟨Nat.le_trans E.1 E'.1, fun x c hx => E'.2 x c (E.2 x c hx)⟩, K.ext E', fun k x hk => ?_, fun k1 k2 x y h1 h2 e => ?_⟩
  · rcases key k x hk with ⟨-, q⟩ | ⟨-, rfl⟩
    · exact ⟨(F k x q).1, (F k x q).2.1, (F k x q).2.2.ext E'⟩
    · exact ⟨E.1, Or.inr K.1, hO⟩
  · rcases key k1 x h1 with ⟨q1, r1⟩ | ⟨q1, rfl⟩ <;> rcases key k2 y h2 with ⟨q2, r2⟩ | ⟨q2, rfl⟩
    · exact I _ _ _ _ r1 r2 e
    · exact absurd e (Nat.ne_of_lt (F _ _ r1).2.2.lt)
    · exact absurd e.symm (Nat.ne_of_lt (F _ _ r2).2.2.lt)
    · rw [q1, q2]
/-- fewer, or in another order -/
theorem Hp.sub {G : OHp} (ix : List Nat) (A : Hp Z a0 h0 hS ws h H) (hG : ix.map (fun i => H[i]?) = G.map some) (hN : ix.Nodup) : Hp Z a0 h0 hS ws h G := by
  have key : ∀ (k : Nat) (x : Addr × OObj), G[k]? = some x → ∃ i : Nat, ix[k]? = some i ∧ H[i]? = some x := fun k x hk => by
    have q : (G.map some)[k]? = some (some x) := by rw [List.getElem?_map, hk]; rfl
    rw [← hG, List.getElem?_map] at q
    cases hi : ix[k]? with
    | none => rw [hi] at q; cases q
    | some i => rw [hi] at q; exact ⟨i, rfl, Option.some.inj q⟩
  refine ⟨A.1, A.2.1, fun k x hk => ?_, fun k1 k2 x y h1 h2 e => ?_⟩
  · obtain ⟨i, -, hi⟩ := key k x hk; exact A.2.2.1 i x hi
  · obtain ⟨i, p1, q1⟩ := key k1 x h1
    obtain ⟨j, p2, q2⟩ := key k2 y h2
    cases A.2.2.2 i j x y q1 q2 e
    have l1 : k1 < ix.length := (List.getElem?_eq_some_iff.mp p1).1
    have l2 : k2 < ix.length := (List.getElem?_eq_some_iff.mp p2).1
    have e1 := (List.getElem?_eq_some_iff.mp p1).2
    have e2 := (List.getElem?_eq_some_iff.mp p2).2
    exact (List.getElem_inj hN).mp (e1.trans e2.symm)
/-- what a callee is handed -/
theorem Hp.enter {F : OHp} (A : Hp Z a0 h0 hS ws h F) : Hp Z a0 h0 h (F.map (·.1)) h F :=
  ⟨A.1, Keep.refl _ _, fun i x hi => ⟨(A.2.2.1 i x hi).1, Or.inl (List.mem_map_of_mem (List.mem_of_getElem? hi)), (A.2.2.1 i x hi).2.2⟩, A.2.2.2⟩
/-- behind a call: the callee's cells, and those that it was not handed -/
theorem Hp.back {F F' G : OHp} {ix rx : List Nat} (A : Hp Z a0 h0 hS ws h H) (hF : ix.map (fun i => H[i]?) = F.map some) (hG : rx.map (fun i => H[i]?) = G.map some) (hN : (ix ++ rx).Nodup) (B : Hp Z a0 h0 h (F.map (·.1)) h' F') : Hp Z a0 h0 hS ws h' (F' ++ G) := by
  have N := List.nodup_append.mp hN
  have AF := A.sub ix hF N.1
  have AG := A.sub rx hG N.2.1
  have mF : ∀ b ∈ F.map (·.1), ∃ i : Nat, i ∈ ix ∧ ∃ x : Addr × OObj, H[i]? = some x ∧ x.1 = b := fun b hb => by
    obtain ⟨x, hx, rfl⟩ := List.mem_map.mp hb
    have : some x ∈ ix.map (fun i => H[i]?) := by rw [hF]; exact List.mem_map_of_mem hx
    obtain ⟨i, hi, e⟩ := List.mem_map.mp this
    exact ⟨i, hi, x, e, rfl⟩
  have mG : ∀ (k : Nat) (x : Addr × OObj), G[k]? = some x → ∃ i : Nat, i ∈ rx ∧ H[i]? = some x := fun k x hk => by
    have : some x ∈ rx.map (fun i => H[i]?) := by rw [hG]; exact List.mem_map_of_mem (List.mem_of_getElem? hk)
    obtain ⟨i, hi, e⟩ := List.mem_map.mp this
    exact ⟨i, hi, e⟩
  have nin : ∀ (k : Nat) (x : Addr × OObj), G[k]? = some x → x.1 ∉ F.map (·.1) := fun k x hk q => by
    obtain ⟨i, hi, y, e1, e2⟩ := mF _ q
    obtain ⟨j, hj, e3⟩ := mG k x hk
    cases A.2.2.2 i j y x e1 e3 e2
    exact N.2.2 i hi i hj rfl
  have key : ∀ (k : Nat) (x : Addr × OObj), (F' ++ G)[k]? = some x → (k < F'.length ∧ F'[k]? = some x) ∨ (F'.length ≤ k ∧ G[k - F'.length]? = some x) := fun k x hk => by
    rw [List.getElem?_append] at hk
    split at hk
    · rename_i q; exact Or.inl ⟨q, hk⟩
    · rename_i q; exact Or.inr ⟨Nat.le_of_not_lt q, hk⟩
  have range : ∀ b, b ∈ F.map (·.1) → b ∈ ws ∨ hS.size ≤ b := fun b hb => by
    obtain ⟨i, -, x, e1, rfl⟩ := mF b hb
    exact (A.2.2.1 i x e1).2.1
  refine ⟨B.1, A.2.1.trans B.2.1 range, fun k x hk => ?_, fun k1 k2 x y h1 h2 e => ?_⟩
  · rcases key k x hk with ⟨-, q⟩ | ⟨-, q⟩
    · obtain ⟨r1, r2, r3⟩ := B.2.2.1 k x q
      exact ⟨r1, r2.elim (range _) fun z => Or.inr (Nat.le_trans A.2.1.1 z), r3⟩
    · obtain ⟨r1, r2, r3⟩ := AG.2.2.1 _ x q
      exact ⟨r1, r2, r3.keep B.2.1 (nin _ x q)⟩
  · have cross : ∀ (k1 k2 : Nat) (x y : Addr × OObj), F'[k1]? = some x → G[k2]? = some y → x.1 = y.1 → False := fun k1 k2 x y g1 g2 e => by
      rcases (B.2.2.1 k1 x g1).2.1 with z | z
      · exact nin k2 y g2 (e ▸ z)
      · have := (AG.2.2.1 k2 y g2).2.2.lt
        rw [e] at z; exact Nat.not_lt.mpr z this
    rcases key k1 x h1 with ⟨l1, q1⟩ | ⟨l1, q1⟩ <;> rcases key k2 y h2 with ⟨l2, q2⟩ | ⟨l2, q2⟩
    · exact B.2.2.2 _ _ _ _ q1 q2 e
    · exact absurd e (fun z => cross _ _ _ _ q1 q2 z)
    · exact absurd e.symm (fun z => cross _ _ _ _ q2 q1 z)
    · have := AG.2.2.2 _ _ _ _ q1 q2 e; omega
end Own
theorem Hp.start (s : State) (a0 : Array Value) : Hp s a0 s.heap s.heap (([] : OHp).map (·.1)) s.heap [] :=
  ⟨⟨Nat.le_refl _, fun _ _ q => q⟩, Keep.refl _ _, fun i x q => by simp at q, fun i j x y q => by simp at q⟩
/-! ## own kit, part 2: blocks of plain instructions -/
abbrev OSt := Option (Array Slot × List Value)
def oLen (n k : Nat) (x : OSt) : OSt := if n = k then x else none
def oLdA (Ls : Array Slot) (k : Nat) (st : List Value) : OSt := match Ls[k]? with
  | some (.val (.ref a)) => some (Ls, .ref a :: st)
  | some (.val .null) => some (Ls, .null :: st)
  | _ => none
def oLdI (Ls : Array Slot) (k : Nat) (st : List Value) : OSt := match Ls[k]? with
  | some (.val (.int v)) => some (Ls, .int v :: st)
  | _ => none
def oLdJ (Ls : Array Slot) (k : Nat) (st : List Value) : OSt := match Ls[k]? with
  | some (.val (.long v)) => some (Ls, .long v :: st)
  | _ => none
def oStI (Ls : Array Slot) (k : Nat) (st : List Value) : OSt := match st with
  | .int x :: r => match storeLocals Ls k (.int x) with
    | some l => some (l, r)
    | none => none
  | _ => none
def oStJ (Ls : Array Slot) (k : Nat) (st : List Value) : OSt := match st with
  | .long x :: r => match storeLocals Ls k (.long x) with
    | some l => some (l, r)
    | none => none
  | _ => none
def oStA (Ls : Array Slot) (k : Nat) (st : List Value) : OSt := match st with
  | .ref x :: r => match storeLocals Ls k (.ref x) with
    | some l => some (l, r)
    | none => none
  | .null :: r => match storeLocals Ls k .null with
    | some l => some (l, r)
    | none => none
  | _ => none
def oInc (Ls : Array Slot) (k : Nat) (c : Int) (st : List Value) : OSt := match Ls[k]? with
  | some (.val (.int x)) => match storeLocals Ls k (.int (x + Int32.ofInt c)) with
    | some l => some (l, st)
    | none => none
  | _ => none
def oII (Ls : Array Slot) (st : List Value) (f : Int32 → Int32 → Int32) : OSt := match st with
  | .int y :: .int x :: r => some (Ls, .int (f x y) :: r)
  | _ => none
def oIIz (Ls : Array Slot) (st : List Value) (f : Int32 → Int32 → Int32) : OSt := match st with
  | .int y :: .int x :: r => if y ≠ 0 then some (Ls, .int (f x y) :: r) else none
  | _ => none
def oJJ (Ls : Array Slot) (st : List Value) (f : Int64 → Int64 → Value) : OSt := match st with
  | .long y :: .long x :: r => some (Ls, f x y :: r)
  | _ => none
def oJI (Ls : Array Slot) (st : List Value) (f : Int64 → Int32 → Int64) : OSt := match st with
  | .int y :: .long x :: r => some (Ls, .long (f x y) :: r)
  | _ => none
def oI (Ls : Array Slot) (st : List Value) (f : Int32 → Value) : OSt := match st with
  | .int x :: r => some (Ls, f x :: r)
  | _ => none
def oJ (Ls : Array Slot) (st : List Value) (f : Int64 → Value) : OSt := match st with
  | .long x :: r => some (Ls, f x :: r)
  | _ => none
def oOne : Value → Bool
  | .int _ => true
  | .ref _ => true
  | .null => true
  | _ => false
def oDup (Ls : Array Slot) (st : List Value) : OSt := match st with
  | x :: r => if oOne x = true then some (Ls, x :: x :: r) else none
  | _ => none
def oPop (Ls : Array Slot) (st : List Value) : OSt := match st with
  | x :: r => if oOne x = true then some (Ls, r) else none
  | _ => none
def oDupX (Ls : Array Slot) (st : List Value) : OSt := match st with
  | x :: y :: r => if oOne x = true then (if oOne y = true then some (Ls, x :: y :: x :: r) else none) else none
  | _ => none
abbrev oUshr (x y : Int32) : Int32 := (x.toUInt32 >>> (y &&& 31).toUInt32).toInt32
abbrev oLushr (x : Int64) (y : Int32) : Int64 := (x.toUInt64 >>> (y &&& 0x3f).toInt64.toUInt64).toInt64
abbrev oI2c (x : Int32) : Int32 := x.toUInt32.toUInt16.toUInt32.toInt32
abbrev oI2b (x : Int32) : Int32 := x.toInt8.toInt32
abbrev oLcmp (x y : Int64) : Int32 := if x > y then 1 else if x = y then 0 else -1
def oEx (i : Instr) (n : Nat) (Ls : Array Slot) (st : List Value) : OSt := match i with
  | .aload_n k => oLen n 1 (oLdA Ls k.val st)
  | .aload k => oLen n 2 (oLdA Ls k st)
  | .iload_n k => oLen n 1 (oLdI Ls k.val st)
  | .iload k => oLen n 2 (oLdI Ls k st)
  | .lload_n k => oLen n 1 (oLdJ Ls k.val st)
  | .lload k => oLen n 2 (oLdJ Ls k st)
  | .istore_n k => oLen n 1 (oStI Ls k.val st)
  | .istore k => oLen n 2 (oStI Ls k st)
  | .lstore_n k => oLen n 1 (oStJ Ls k.val st)
  | .lstore k => oLen n 2 (oStJ Ls k st)
  | .astore_n k => oLen n 1 (oStA Ls k.val st)
  | .astore k => oLen n 2 (oStA Ls k st)
  | .iinc k c => oLen n 3 (oInc Ls k c st)
  | .iconst v => oLen n 1 (some (Ls, .int (Int32.ofInt v) :: st))
  | .lconst v => oLen n 1 (some (Ls, .long (Int64.ofNat v) :: st))
  | .bipush v => oLen n 2 (some (Ls, .int (Int8.ofInt v).toInt32 :: st))
  | .sipush v => oLen n 3 (some (Ls, .int (Int16.ofInt v).toInt32 :: st))
  | .aconst_null => oLen n 1 (some (Ls, .null :: st))
  | .iadd => oLen n 1 (oII Ls st (fun x y => x + y))
  | .isub => oLen n 1 (oII Ls st (fun x y => x - y))
  | .imul => oLen n 1 (oII Ls st (fun x y => x * y))
  | .iand => oLen n 1 (oII Ls st (fun x y => x &&& y))
  | .ior => oLen n 1 (oII Ls st (fun x y => x ||| y))
  | .ixor => oLen n 1 (oII Ls st (fun x y => x ^^^ y))
  | .ishl => oLen n 1 (oII Ls st (fun x y => x <<< (y &&& 31)))
  | .ishr => oLen n 1 (oII Ls st (fun x y => x >>> (y &&& 31)))
  | .iushr => oLen n 1 (oII Ls st (fun x y => oUshr x y))
  | .irem => oLen n 1 (oIIz Ls st (fun x y => x % y))
  | .idiv => oLen n 1 (oIIz Ls st (fun x y => x / y))
  | .ineg => oLen n 1 (oI Ls st (fun x => .int (-x)))
  | .ladd => oLen n 1 (oJJ Ls st (fun x y => .long (x + y)))
  | .lsub => oLen n 1 (oJJ Ls st (fun x y => .long (x - y)))
  | .lmul => oLen n 1 (oJJ Ls st (fun x y => .long (x * y)))
  | .land => oLen n 1 (oJJ Ls st (fun x y => .long (x &&& y)))
  | .lcmp => oLen n 1 (oJJ Ls st (fun x y => .int (oLcmp x y)))
  | .lushr => oLen n 1 (oJI Ls st (fun x y => oLushr x y))
  | .l2i => oLen n 1 (oJ Ls st (fun x => .int x.toInt32))
  | .i2l => oLen n 1 (oI Ls st (fun x => .long x.toInt64))
  | .i2b => oLen n 1 (oI Ls st (fun x => .int (oI2b x)))
  | .i2c => oLen n 1 (oI Ls st (fun x => .int (oI2c x)))
  | .dup => oLen n 1 (oDup Ls st)
  | .pop => oLen n 1 (oPop Ls st)
  | .dup_x1 => oLen n 1 (oDupX Ls st)
  | _ => none
def oRun : List (Instr × Nat) → Array Slot → List Value → OSt
  | [], Ls, st => some (Ls, st)
  | i :: r, Ls, st => match oEx i.1 i.2 Ls st with
    | some x => oRun r x.1 x.2
    | none => none
def oEnd (pc : Nat) : List (Instr × Nat) → Nat
  | [] => pc
  | i :: r => oEnd (pc + i.2) r
def oAt (code : ByteArray) (pc : Nat) (i : Instr × Nat) : Bool := match decode code pc with
  | .ok j => decide (j = i)
  | .error _ => false
def oBlk (code : ByteArray) (pc : Nat) : List (Instr × Nat) → Bool
  | [] => true
  | i :: r => oAt code pc i && oBlk code (pc + i.2) r
theorem oAt.dec {code : ByteArray} {pc : Nat} {i : Instr × Nat} (h : oAt code pc i = true) : decode code pc = .ok i := by
  unfold oAt at h
  split at h
  · rename_i j e; rw [e, of_decide_eq_true h]
  · cases h
theorem oLen.e {n k : Nat} {x : OSt} {y : Array Slot × List Value} (h : oLen n k x = some y) : n = k ∧ x = some y := by
  unfold oLen at h; split at h
  · exact ⟨by assumption, h⟩
  · cases h
theorem oOne.cat {x : Value} (h : oOne x = true) : x.category = 1 := by cases x <;> simp [oOne, Value.category] at h ⊢
section Sound
variable {tb : Tables} [Ours tb] {e : Env} {below : List Frame} {T target : State} {m : MethodId} {c : Code} {pc : Nat} {Ls L' : Array Slot} {st S' : List Value}
set_option maxHeartbeats 4000000 in
theorem oEx.sound {i : Instr} {n : Nat} (h : At T m c below) (hx : tb.exec = Jvm.exec) (hd : decode c.code pc = .ok (i, n)) (he : oEx i n Ls st = some (L', S'))
    (hr : Steps tb e below (T.setTop (mkF m (pc + n) L' S')) target) : Steps tb e below (T.setTop (mkF m pc Ls st)) target := by
  unfold oEx at he
  split at he <;> first | (cases he; done) | skip
  all_goals (obtain ⟨rfl, he⟩ := oLen.e he)
  · unfold oLdA at he; split at he <;> first | (cases he; done) | skip
    · rename_i q; cases he; exact XS.aloadN h hx rfl hd q rfl hr
    · rename_i q; cases he; exact XS.aloadN h hx rfl hd q rfl hr
  · unfold oLdA at he; split at he <;> first | (cases he; done) | skip
    · rename_i q; cases he; exact XS.aload h hx rfl hd q rfl hr
    · rename_i q; cases he; exact XS.aload h hx rfl hd q rfl hr
  · unfold oLdI at he; split at he <;> first | (cases he; done) | skip
    rename_i q; cases he; exact XS.iloadN h hx rfl hd q hr
  · unfold oLdI at he; split at he <;> first | (cases he; done) | skip
    rename_i q; cases he; exact XS.iload h hx rfl hd q hr
  · unfold oLdJ at he; split at he <;> first | (cases he; done) | skip
    rename_i q; cases he; exact XS.lloadN h hx rfl hd q hr
  · unfold oLdJ at he; split at he <;> first | (cases he; done) | skip
    rename_i q; cases he; exact XS.lload h hx rfl hd q hr
  · unfold oStI at he; split at he <;> first | (cases he; done) | skip
    split at he <;> first | (cases he; done) | skip
    rename_i q; cases he; exact XS.istoreN h hx rfl hd rfl q hr
  · unfold oStI at he; split at he <;> first | (cases he; done) | skip
    split at he <;> first | (cases he; done) | skip
    rename_i q; cases he; exact XS.istore h hx rfl hd rfl q hr
  · unfold oStJ at he; split at he <;> first | (cases he; done) | skip
    split at he <;> first | (cases he; done) | skip
    rename_i q; cases he; exact XS.lstoreN h hx rfl hd rfl q hr
  · unfold oStJ at he; split at he <;> first | (cases he; done) | skip
    split at he <;> first | (cases he; done) | skip
    rename_i q; cases he; exact XS.lstore h hx rfl hd rfl q hr
  · unfold oStA at he; split at he <;> first | (cases he; done) | skip
    all_goals (split at he <;> first | (cases he; done) | skip)
    all_goals (rename_i q; cases he; exact XS.astoreN h hx rfl hd rfl rfl q hr)
  · unfold oStA at he; split at he <;> first | (cases he; done) | skip
    all_goals (split at he <;> first | (cases he; done) | skip)
    all_goals (rename_i q; cases he; exact XS.astore h hx rfl hd rfl rfl q hr)
  · unfold oInc at he; split at he <;> first | (cases he; done) | skip
    rename_i q0
    split at he <;> first | (cases he; done) | skip
    rename_i q; cases he; exact XS.iinc h hx rfl hd q0 q hr
  · cases he; exact XS.iconst h hx rfl hd hr
  · cases he; exact XS.lconst h hx rfl hd hr
  · cases he; exact XS.bipush h hx rfl hd hr
  · cases he; exact XS.sipush h hx rfl hd hr
  · cases he; exact XS.aconstNull h hx rfl hd hr
  · unfold oII at he; split at he <;> first | (cases he; done) | skip
    cases he; exact XS.iadd h hx rfl hd rfl hr
  · unfold oII at he; split at he <;> first | (cases he; done) | skip
    cases he; exact XS.isub h hx rfl hd rfl hr
  · unfold oII at he; split at he <;> first | (cases he; done) | skip
    cases he; exact XS.imul h hx rfl hd rfl hr
  · unfold oII at he; split at he <;> first | (cases he; done) | skip
    cases he; exact XS.iand h hx rfl hd rfl hr
  · unfold oII at he; split at he <;> first | (cases he; done) | skip
    cases he; exact XS.ior h hx rfl hd rfl hr
  · unfold oII at he; split at he <;> first | (cases he; done) | skip
    cases he; exact XS.ixor h hx rfl hd rfl hr
  · unfold oII at he; split at he <;> first | (cases he; done) | skip
    cases he; exact XS.ishl h hx rfl hd rfl hr
  · unfold oII at he; split at he <;> first | (cases he; done) | skip
    cases he; exact XS.ishr h hx rfl hd rfl hr
  · unfold oII at he; split at he <;> first | (cases he; done) | skip
    cases he; exact XS.iushr h hx rfl hd rfl hr
  · unfold oIIz at he; split at he <;> first | (cases he; done) | skip
    split at he <;> first | (cases he; done) | skip
    rename_i hy
    cases he
    refine XS.irem h hx rfl hd rfl hy ?_
    rw [irem_eq_mod]; exact hr
  · unfold oIIz at he; split at he <;> first | (cases he; done) | skip
    split at he <;> first | (cases he; done) | skip
    rename_i hy
    cases he; exact XS.idiv h hx rfl hd rfl hy hr
  · unfold oI at he; split at he <;> first | (cases he; done) | skip
    cases he; exact XS.ineg h hx rfl hd rfl hr
  · unfold oJJ at he; split at he <;> first | (cases he; done) | skip
    cases he; exact XS.ladd h hx rfl hd rfl hr
  · unfold oJJ at he; split at he <;> first | (cases he; done) | skip
    cases he; exact XS.lsub h hx rfl hd rfl hr
  · unfold oJJ at he; split at he <;> first | (cases he; done) | skip
    cases he; exact XS.lmul h hx rfl hd rfl hr
  · unfold oJJ at he; split at he <;> first | (cases he; done) | skip
    cases he; exact XS.land h hx rfl hd rfl hr
  · unfold oJJ at he; split at he <;> first | (cases he; done) | skip
    cases he; exact XS.lcmp h hx rfl hd rfl hr
  · unfold oJI at he; split at he <;> first | (cases he; done) | skip
    cases he; exact XS.lushr h hx rfl hd rfl hr
  · unfold oJ at he; split at he <;> first | (cases he; done) | skip
    cases he; exact XS.l2i h hx rfl hd rfl hr
  · unfold oI at he; split at he <;> first | (cases he; done) | skip
    cases he; exact XS.i2l h hx rfl hd rfl hr
  · unfold oI at he; split at he <;> first | (cases he; done) | skip
    cases he; exact XS.i2b h hx rfl hd rfl hr
  · unfold oI at he; split at he <;> first | (cases he; done) | skip
    cases he; exact XS.i2c h hx rfl hd rfl hr
  · unfold oDup at he; split at he <;> first | (cases he; done) | skip
    split at he <;> first | (cases he; done) | skip
    rename_i q; cases he; exact XS.dup h hx rfl hd rfl (oOne.cat q) hr
  · unfold oPop at he; split at he <;> first | (cases he; done) | skip
    split at he <;> first | (cases he; done) | skip
    rename_i q; cases he; exact XS.pop h hx rfl hd rfl (oOne.cat q) hr
  · unfold oDupX at he; split at he <;> first | (cases he; done) | skip
    split at he <;> first | (cases he; done) | skip
    rename_i q1
    split at he <;> first | (cases he; done) | skip
    rename_i q2; cases he; exact XS.dupX1 h hx rfl hd rfl (oOne.cat q1) (oOne.cat q2) hr
theorem oRun.sound (is : List (Instr × Nat)) : ∀ {pc : Nat} {Ls : Array Slot} {st : List Value}, At T m c below → tb.exec = Jvm.exec → oBlk c.code pc is = true → oRun is Ls st = some (L', S') →
    Steps tb e below (T.setTop (mkF m (oEnd pc is) L' S')) target → Steps tb e below (T.setTop (mkF m pc Ls st)) target := by
  induction is with
  | nil => intro pc Ls st h hx hb he hr; cases he; exact hr
  | cons i r ih =>
    intro pc Ls st h hx hb he hr
    simp only [oBlk, Bool.and_eq_true] at hb
    simp only [oRun] at he
    split at he
    · rename_i x q
      exact oEx.sound h hx (oAt.dec hb.1) q (ih h hx hb.2 he hr)
    · cases he
end Sound
/-! ## own kit, part 3: from a frame the run goes to its return -/
def Cx (p : Program) (s : State) (m : MethodId) (meth : Method) (c : Code) (Z : State) (y : MethodName) (code : ByteArray) (maxL : Nat) (ret : Option FieldType) : Prop :=
  p.tables.exec = Jvm.exec ∧ c.code = code ∧ c.maxLocals = maxL ∧ s.vm.findClass y.cls = some m.cls ∧ meth.name = y.name ∧ meth.sig.returnType = ret ∧ meth.locks = false ∧ Z.Warmed39 s.vm
def Ends (p : Program) (e : Env) (s : State) (below : List Frame) (Z : State) (a0 : Array Value) (h0 hS : Heap) (ws : List Addr) (rc rs : Nat) (Q : Option Value → OHp → Prop) (T : State) (g : JFrame) : Prop :=
  ∃ t o, Steps p.tables e below (T.setTop g) t ∧ t.status = .running ∧ Ended t below o ∧ ∃ v L, o = .returned v ∧ (Fr h0.size L ∧ ∃ F', Q v F' ∧ Hp Z a0 h0 hS ws t.heap F') ∧ FrameEnd s o t L rc rs
def Goes (p : Program) (l : Launch) (e : Env) (R : Room) (s : State) (m : MethodId) (args : Array Value) (below : List Frame) (meth : Method) (c : Code) (Z : State) (a0 : Array Value) (h0 hS : Heap) (ws : List Addr) (rc rs : Nat) (Q : Option Value → OHp → Prop) (H : OHp) (cells slots : Nat) (g : JFrame) : Prop :=
  ∀ (T : State) (locs : List Loc), Stand p l e R s m args below meth c T locs cells slots → Fr h0.size locs → Hp Z a0 h0 hS ws T.heap H → Ends p e s below Z a0 h0 hS ws rc rs Q T g
def Does (l : Launch) (Z : State) (a0 : Array Value) (h0 : Heap) (y : MethodName) (code : ByteArray) (maxL : Nat) (ret : Option FieldType) (rm : Room) (as' : Array Value) (F : OHp) (Q : Option Value → OHp → Prop) : Prop :=
  ∀ (ws : List Jvm.Cond) (h : Heap), Hp Z a0 h0 h (F.map (·.1)) h F → MetFree l y (head1 (Jvm.Cond.code y code maxL ret :: ws) rm) (fun a U => a = as' ∧ Z.Warmed39 U.vm ∧ U.heap = h) (fun _ _ _ _ _ => True)
    (fun _ U o U' => ∃ v L, o = .returned v ∧ (Fr h0.size L ∧ ∃ F', Q v F' ∧ Hp Z a0 h0 h (F.map (·.1)) U'.heap F') ∧ FrameEnd U o U' L rm.cells rm.slots)
theorem Does.mk {l : Launch} {Z : State} {a0 : Array Value} {h0 : Heap} {y : MethodName} {code : ByteArray} {maxL : Nat} {ret : Option FieldType} {rm : Room} {as' : Array Value} {F : OHp} {Q : Option Value → OHp → Prop} (Ls : Array Slot)
    (hp : plainFor y = true) (hent : ∀ m, entryFrame m as' maxL = mkF m 0 Ls [])
    (K : ∀ (p : Program) (e : Env) (s : State) (m : MethodId) (args : Array Value) (below : List Frame) (meth : Method) (c : Code) (h : Heap), Cx p s m meth c Z y code maxL ret → Goes p l e rm s m args below meth c Z a0 h0 h (F.map (·.1)) rm.cells rm.slots Q F 0 0 (mkF m 0 Ls [])) :
    Does l Z a0 h0 y code maxL ret rm as' F Q := by
  intro ws h hH
  refine MetFree.of_bodySF (code := code) (maxLocals := maxL) (ret := ret) hp hisR ?_
  intro p e s m args below meth c s₁ Bd hml hP hK
  obtain ⟨rfl, hZ, hh⟩ := hP
  have X0 : Stand p l e rm s m args below meth c s₁ [] 0 0 := Stand.of_body Bd
  have e0 : s₁.heap = h := by rw [← hh, Bd.state]; rfl
  have G := K p e s m args below meth c h ⟨Bd.exec, Bd.bytes, hml, findClass_of_methodNamed Bd.named, (name_of_methodNamed Bd.named Bd.method).1, Bd.returns, Bd.notSynchronized, hZ⟩ s₁ [] X0 (Fr.nil _) (by rw [e0]; exact hH)
  obtain ⟨t, o, h1, h2, h3, h4⟩ := G
  exact ⟨t, o, castTop (hent m) h1, h2, h3, h4⟩
section Goes
variable {p : Program} {l : Launch} {e : Env} {R : Room} {s : State} {m : MethodId} {args : Array Value} {below : List Frame} {meth : Method} {c : Code} {Z : State} {a0 : Array Value} {h0 hS : Heap} {ws : List Addr} {rc rs : Nat} {Q : Option Value → OHp → Prop} {H : OHp} {cells slots : Nat} {y : MethodName} {code : ByteArray} {maxL : Nat} {ret : Option FieldType} {pc : Nat} {Ls : Array Slot} {st : List Value}
theorem Ends.via {T T' : State} {g g' : JFrame} (k : Ends p e s below Z a0 h0 hS ws rc rs Q T' g') (st : ∀ t, Steps p.tables e below (T'.setTop g') t → Steps p.tables e below (T.setTop g) t) : Ends p e s below Z a0 h0 hS ws rc rs Q T g := by
  obtain ⟨t, o, h1, r⟩ := k
  exact ⟨t, o, st _ h1, r⟩
theorem Goes.run (X : Cx p s m meth c Z y code maxL ret) (is : List (Instr × Nat)) {L' : Array Slot} {S' : List Value} {pc' : Nat} (he : oRun is Ls st = some (L', S')) (k : Goes p l e R s m args below meth c Z a0 h0 hS ws rc rs Q H cells slots (mkF m pc' L' S')) (hb : oBlk code pc is = true := by decide +kernel) (hp : oEnd pc is = pc' := by rfl) : Goes p l e R s m args below meth c Z a0 h0 hS ws rc rs Q H cells slots (mkF m pc Ls st) := fun T locs Y N A => by
  subst hp
  exact (k T locs Y N A).via fun t q => oRun.sound is Y.here X.1 (by rw [X.2.1]; exact hb) he q
theorem Goes.runS (X : Cx p s m meth c Z y code maxL ret) (is : List (Instr × Nat)) {S' : List Value} {pc' : Nat} (he : oRun is Ls st = some (Ls, S')) (k : Goes p l e R s m args below meth c Z a0 h0 hS ws rc rs Q H cells slots (mkF m pc' Ls S')) (hb : oBlk code pc is = true := by decide +kernel) (hp : oEnd pc is = pc' := by rfl) : Goes p l e R s m args below meth c Z a0 h0 hS ws rc rs Q H cells slots (mkF m pc Ls st) := Goes.run X is he k hb hp
theorem Goes.goto (X : Cx p s m meth c Z y code maxL ret) {o : Int} {pc' : Nat} (k : Goes p l e R s m args below meth c Z a0 h0 hS ws rc rs Q H cells slots (mkF m pc' Ls st)) (hd : oAt code pc (.goto o, 3) = true := by decide +kernel) (ho : 0 ≤ (pc : Int) + o := by decide) (hp : ((pc : Int) + o).toNat = pc' := by decide) : Goes p l e R s m args below meth c Z a0 h0 hS ws rc rs Q H cells slots (mkF m pc Ls st) := fun T locs Y N A =>
  (k T locs Y N A).via fun t q => XS.goto Y.here X.1 rfl (pc0 := pc) rfl (hb X.2.1 (oAt.dec hd)) ho hp q
theorem Goes.if1 (X : Cx p s m meth c Z y code maxL ret) {cd : ClassFile.Cond} {o : Int} {pc' : Nat} {x : Int32} (k1 : ifCond.holds cd x = true → Goes p l e R s m args below meth c Z a0 h0 hS ws rc rs Q H cells slots (mkF m pc' Ls st)) (k2 : ifCond.holds cd x = false → Goes p l e R s m args below meth c Z a0 h0 hS ws rc rs Q H cells slots (mkF m (pc + 3) Ls st)) (hd : oAt code pc (.ifCond cd o, 3) = true := by decide +kernel) (ho : 0 ≤ (pc : Int) + o := by decide) (hp : ((pc : Int) + o).toNat = pc' := by decide) : Goes p l e R s m args below meth c Z a0 h0 hS ws rc rs Q H cells slots (mkF m pc Ls (.int x :: st)) := fun T locs Y N A => by
  cases q : ifCond.holds cd x with
  | true => exact (k1 q T locs Y N A).via fun t r => XS.ifYes Y.here X.1 rfl (pc0 := pc) rfl (hb X.2.1 (oAt.dec hd)) rfl q ho hp r
  | false => exact (k2 q T locs Y N A).via fun t r => XS.ifNo Y.here X.1 rfl (hb X.2.1 (oAt.dec hd)) rfl q r
theorem Goes.if2 (X : Cx p s m meth c Z y code maxL ret) {cd : ClassFile.Cond} {o : Int} {pc' : Nat} {x z : Int32} (k1 : if_icmp.holds cd x z = true → Goes p l e R s m args below meth c Z a0 h0 hS ws rc rs Q H cells slots (mkF m pc' Ls st)) (k2 : if_icmp.holds cd x z = false → Goes p l e R s m args below meth c Z a0 h0 hS ws rc rs Q H cells slots (mkF m (pc + 3) Ls st)) (hd : oAt code pc (.if_icmp cd o, 3) = true := by decide +kernel) (ho : 0 ≤ (pc : Int) + o := by decide) (hp : ((pc : Int) + o).toNat = pc' := by decide) : Goes p l e R s m args below meth c Z a0 h0 hS ws rc rs Q H cells slots (mkF m pc Ls (.int z :: .int x :: st)) := fun T locs Y N A => by
  cases q : if_icmp.holds cd x z with
  | true => exact (k1 q T locs Y N A).via fun t r => XS.icmpYes Y.here X.1 rfl (pc0 := pc) rfl (hb X.2.1 (oAt.dec hd)) rfl q ho hp r
  | false => exact (k2 q T locs Y N A).via fun t r => XS.icmpNo Y.here X.1 rfl (hb X.2.1 (oAt.dec hd)) rfl q r
theorem Goes.ifA (X : Cx p s m meth c Z y code maxL ret) {cd : ClassFile.ACond} {o : Int} {pc' : Nat} {x z : Value} (h1 : x.isRef = true) (h2 : z.isRef = true) (k1 : acV cd (decide (x = z)) = true → Goes p l e R s m args below meth c Z a0 h0 hS ws rc rs Q H cells slots (mkF m pc' Ls st)) (k2 : acV cd (decide (x = z)) = false → Goes p l e R s m args below meth c Z a0 h0 hS ws rc rs Q H cells slots (mkF m (pc + 3) Ls st)) (hd : oAt code pc (.if_acmp cd o, 3) = true := by decide +kernel) (ho : 0 ≤ (pc : Int) + o := by decide) (hp : ((pc : Int) + o).toNat = pc' := by decide) : Goes p l e R s m args below meth c Z a0 h0 hS ws rc rs Q H cells slots (mkF m pc Ls (z :: x :: st)) := fun T locs Y N A => by
  cases q : acV cd (decide (x = z)) with
  | true => exact (k1 q T locs Y N A).via fun t r => acmp Y X.1 rfl h1 h2 (pc0 := pc) (pc' := pc') rfl (hb X.2.1 (oAt.dec hd)) rfl rfl ho (by rw [if_pos q]; exact hp.symm) r
  | false => exact (k2 q T locs Y N A).via fun t r => acmp Y X.1 rfl h1 h2 (pc0 := pc) (pc' := pc + 3) rfl (hb X.2.1 (oAt.dec hd)) rfl rfl ho (by rw [if_neg (by rw [q]; simp)]) r
theorem Goes.nullY (X : Cx p s m meth c Z y code maxL ret) {o : Int} {pc' : Nat} (k : Goes p l e R s m args below meth c Z a0 h0 hS ws rc rs Q H cells slots (mkF m pc' Ls st)) (hd : oAt code pc (.ifnull o, 3) = true := by decide +kernel) (ho : 0 ≤ (pc : Int) + o := by decide) (hp : ((pc : Int) + o).toNat = pc' := by decide) : Goes p l e R s m args below meth c Z a0 h0 hS ws rc rs Q H cells slots (mkF m pc Ls (.null :: st)) := fun T locs Y N A =>
  (k T locs Y N A).via fun t r => XS.ifnullYes Y.here X.1 rfl (pc0 := pc) rfl (hb X.2.1 (oAt.dec hd)) rfl ho hp r
theorem Goes.nullN (X : Cx p s m meth c Z y code maxL ret) {o : Int} {b : Addr} (k : Goes p l e R s m args below meth c Z a0 h0 hS ws rc rs Q H cells slots (mkF m (pc + 3) Ls st)) (hd : oAt code pc (.ifnull o, 3) = true := by decide +kernel) : Goes p l e R s m args below meth c Z a0 h0 hS ws rc rs Q H cells slots (mkF m pc Ls (.ref b :: st)) := fun T locs Y N A =>
  (k T locs Y N A).via fun t r => XS.ifnullNo Y.here X.1 rfl (hb X.2.1 (oAt.dec hd)) rfl r
theorem Goes.nonY (X : Cx p s m meth c Z y code maxL ret) {o : Int} {pc' : Nat} {b : Addr} (k : Goes p l e R s m args below meth c Z a0 h0 hS ws rc rs Q H cells slots (mkF m pc' Ls st)) (hd : oAt code pc (.ifnonnull o, 3) = true := by decide +kernel) (ho : 0 ≤ (pc : Int) + o := by decide) (hp : ((pc : Int) + o).toNat = pc' := by decide) : Goes p l e R s m args below meth c Z a0 h0 hS ws rc rs Q H cells slots (mkF m pc Ls (.ref b :: st)) := fun T locs Y N A =>
  (k T locs Y N A).via fun t r => XS.ifnonnullYes Y.here X.1 rfl (pc0 := pc) rfl (hb X.2.1 (oAt.dec hd)) rfl ho hp r
theorem Goes.nonN (X : Cx p s m meth c Z y code maxL ret) {o : Int} (k : Goes p l e R s m args below meth c Z a0 h0 hS ws rc rs Q H cells slots (mkF m (pc + 3) Ls st)) (hd : oAt code pc (.ifnonnull o, 3) = true := by decide +kernel) : Goes p l e R s m args below meth c Z a0 h0 hS ws rc rs Q H cells slots (mkF m pc Ls (.null :: st)) := fun T locs Y N A =>
  (k T locs Y N A).via fun t r => XS.ifnonnullNo Y.here X.1 rfl (hb X.2.1 (oAt.dec hd)) rfl r
theorem Goes.ldcI (X : Cx p s m meth c Z y code maxL ret) {index : Nat} {v : Int32} (w : (Jvm.Cond.constant y.cls index v).before a0 Z = true) (k : Goes p l e R s m args below meth c Z a0 h0 hS ws rc rs Q H cells slots (mkF m (pc + 2) Ls (.int v :: st))) (hd : oAt code pc (.ldc index, 2) = true := by decide +kernel) : Goes p l e R s m args below meth c Z a0 h0 hS ws rc rs Q H cells slots (mkF m pc Ls st) := fun T locs Y N A =>
  (k T locs Y N A).via fun t r => Y.ldcI X.1 X.2.2.2.1 (mvT X.2.2.2.2.2.2.2 w) rfl (hb X.2.1 (oAt.dec hd)) r
/-- fewer objects, or in another order -/
theorem Goes.sub {G : OHp} (ix : List Nat) (hG : ix.map (fun i => H[i]?) = G.map some) {g : JFrame} (k : Goes p l e R s m args below meth c Z a0 h0 hS ws rc rs Q G cells slots g) (hN : ix.Nodup := by decide) : Goes p l e R s m args below meth c Z a0 h0 hS ws rc rs Q H cells slots g := fun T locs Y N A =>
  k T locs Y N (A.sub ix hG hN)
theorem Goes.more {cells' slots' : Nat} (h1 : cells ≤ cells') (h2 : slots ≤ slots') {g : JFrame} (k : Goes p l e R s m args below meth c Z a0 h0 hS ws rc rs Q H cells' slots' g) : Goes p l e R s m args below meth c Z a0 h0 hS ws rc rs Q H cells slots g := fun T locs Y N A =>
  k T locs (Y.more h1 h2) N A
/-- two objects at two places of the list lie at two addresses -/
theorem Goes.ne {g : JFrame} (i j : Nat) {x z : Addr × OObj} (hi : H[i]? = some x) (hj : H[j]? = some z) (q : i ≠ j) (k : x.1 ≠ z.1 → Goes p l e R s m args below meth c Z a0 h0 hS ws rc rs Q H cells slots g) : Goes p l e R s m args below meth c Z a0 h0 hS ws rc rs Q H cells slots g := fun T locs Y N A =>
  k (A.ne hi hj q) T locs Y N A
theorem Goes.new (X : Cx p s m meth c Z y code maxL ret) {C : String} {index n : Nat} (fs : List OFld) (w : (Jvm.Cond.classLink y.cls index C).before a0 Z = true) (wi : (Jvm.Cond.instantiable C n).before a0 Z = true) (wz : (Jvm.Cond.initialized C).before a0 Z = true) (hfs : ∀ f ∈ fs, Laid Z a0 C f.1 f.2.1 f.2.2.1 ∧ ∃ t, parseFieldDescriptor f.2.2.1 = some t ∧ f.2.2.2 = defaultValue t) (k : ∀ a, Goes p l e R s m args below meth c Z a0 h0 hS ws rc rs Q (H ++ [(a, ob C fs)]) (cells + 1) (slots + n) (mkF m (pc + 3) Ls (.ref a :: st))) (hd : oAt code pc (.new index, 3) = true := by decide +kernel) (hc : cells + 1 ≤ R.cells := by decide) (hl : slots + n ≤ R.slots := by decide) : Goes p l e R s m args below meth c Z a0 h0 hS ws rc rs Q H cells slots (mkF m pc Ls st) := fun T locs Y N A => by
  obtain ⟨T', h', Y', e', E', X', D', -, st'⟩ := newO Y X.1 X.2.2.2.2.2.2.2 X.2.2.2.1 w wi wz rfl (g := mkF m pc Ls st) rfl (hb X.2.1 (oAt.dec hd)) hc hl
  refine (k T.heap.size T' locs Y' N ?_).via st'
  rw [e']
  refine A.new E' ⟨X', fun f hf => ?_⟩
  obtain ⟨h1, t, h2, h3⟩ := hfs f hf
  exact ⟨h1, ⟨t, h2⟩, by rw [h3]; exact D' h1 h2⟩
theorem Goes.getF (X : Cx p s m meth c Z y code maxL ret) {R0 : String} {index : Nat} (i j : Nat) {a : Addr} {C : String} {fs : List OFld} {f : OFld} (hi : H[i]? = some (a, ob C fs)) (hj : fs[j]? = some f) (w : (Jvm.Cond.fieldLink y.cls index R0 f.2.1 f.2.2.1).before a0 Z = true) (via : Via Z R0 f.1 f.2.1 f.2.2.1) (k : Goes p l e R s m args below meth c Z a0 h0 hS ws rc rs Q H cells slots (mkF m (pc + 3) Ls (f.2.2.2 :: st))) (hd : oAt code pc (.getfield index, 3) = true := by decide +kernel) : Goes p l e R s m args below meth c Z a0 h0 hS ws rc rs Q H cells slots (mkF m pc Ls (.ref a :: st)) := fun T locs Y N A => by
  have F := ((A.at hi).2 f (List.mem_of_getElem? hj)).2.2
  obtain ⟨T', Y', e', st'⟩ := RoadKit.getF Y X.1 X.2.2.2.2.2.2.2 (host := "") X.2.2.2.1 (Or.inl w) via rfl F (g := mkF m pc Ls (.ref a :: st)) rfl rfl (hb X.2.1 (oAt.dec hd))
  exact (k T' locs Y' N (by rw [e']; exact A)).via st'
theorem Goes.getFN (X : Cx p s m meth c Z y code maxL ret) {R0 host : String} {index : Nat} (i j : Nat) {a : Addr} {C : String} {fs : List OFld} {f : OFld} (hi : H[i]? = some (a, ob C fs)) (hj : fs[j]? = some f) (w : (Jvm.Cond.fieldLinkNest y.cls index R0 f.2.1 f.2.2.1 host).before a0 Z = true) (via : Via Z R0 f.1 f.2.1 f.2.2.1) (k : Goes p l e R s m args below meth c Z a0 h0 hS ws rc rs Q H cells slots (mkF m (pc + 3) Ls (f.2.2.2 :: st))) (hd : oAt code pc (.getfield index, 3) = true := by decide +kernel) : Goes p l e R s m args below meth c Z a0 h0 hS ws rc rs Q H cells slots (mkF m pc Ls (.ref a :: st)) := fun T locs Y N A => by
  have F := ((A.at hi).2 f (List.mem_of_getElem? hj)).2.2
  obtain ⟨T', Y', e', st'⟩ := RoadKit.getF Y X.1 X.2.2.2.2.2.2.2 (host := host) X.2.2.2.1 (Or.inr w) via rfl F (g := mkF m pc Ls (.ref a :: st)) rfl rfl (hb X.2.1 (oAt.dec hd))
  exact (k T' locs Y' N (by rw [e']; exact A)).via st'
theorem Goes.putF (X : Cx p s m meth c Z y code maxL ret) {R0 : String} {index kk : Nat} (i j : Nat) {a : Addr} {C : String} {fs : List OFld} {f : OFld} {v : Value} {ty : FieldType} (hi : H[i]? = some (a, ob C fs)) (hj : fs[j]? = some f) (w : (Jvm.Cond.fieldLink y.cls index R0 f.2.1 f.2.2.1).before a0 Z = true) (via : Via Z R0 f.1 f.2.1 f.2.2.1) (L : (Jvm.Cond.lays C f.1 f.2.1 f.2.2.1).before a0 Z = true ∨ ((Jvm.Cond.laysFinal C f.1 f.2.1 f.2.2.1).before a0 Z = true ∧ y.cls = f.1 ∧ y.name = "<init>")) (wi : (Jvm.Cond.instantiable C kk).before a0 Z = true) (hn : ∀ i f', fs[i]? = some f' → i ≠ j → f'.2.1 ≠ f.2.1) (hty : parseFieldDescriptor f.2.2.1 = some ty) (hnv : narrow ty v = v) (hf : fits ty v = true) (k : Goes p l e R s m args below meth c Z a0 h0 hS ws rc rs Q (H.set i (a, ob C (fs.set j (f.1, f.2.1, f.2.2.1, v)))) cells slots (mkF m (pc + 3) Ls st)) (hd : oAt code pc (.putfield index, 3) = true := by decide +kernel) : Goes p l e R s m args below meth c Z a0 h0 hS ws rc rs Q H cells slots (mkF m pc Ls (v :: .ref a :: st)) := fun T locs Y N A => by
  have O := A.at hi
  have F := (O.2 f (List.mem_of_getElem? hj)).2.2
  obtain ⟨T', h', Y', e', W, st'⟩ := RoadKit.putF Y X.1 X.2.2.2.2.2.2.2 (host := "") X.2.2.2.1 (Or.inl w) via rfl F O.1 (L.imp id fun q => ⟨q.1, q.2.1, X.2.2.2.2.1.trans q.2.2⟩) wi hty hnv hf (g := mkF m pc Ls (v :: .ref a :: st)) rfl rfl (hb X.2.1 (oAt.dec hd))
  refine (k T' _ Y' (Fr.snoc Y' N (A.2.2.1 i _ hi).1) ?_).via st'
  rw [e']
  exact A.wr hi W (OKo.put O hj hn W)
theorem Goes.getS (X : Cx p s m meth c Z y code maxL ret) {R0 O n d : String} {index : Nat} {v : Value} (w : (Jvm.Cond.fieldLink y.cls index R0 n d).before a0 Z = true) (via : Via Z R0 O n d) (F : Sta Z h0 O n d v) (k : Goes p l e R s m args below meth c Z a0 h0 hS ws rc rs Q H cells slots (mkF m (pc + 3) Ls (v :: st))) (hd : oAt code pc (.getstatic index, 3) = true := by decide +kernel) : Goes p l e R s m args below meth c Z a0 h0 hS ws rc rs Q H cells slots (mkF m pc Ls st) := fun T locs Y N A => by
  obtain ⟨T', Y', e', st'⟩ := RoadKit.getS Y X.1 X.2.2.2.2.2.2.2 (host := "") X.2.2.2.1 w via rfl (F.ext A.1) (g := mkF m pc Ls st) rfl (hb X.2.1 (oAt.dec hd))
  exact (k T' locs Y' N (by rw [e']; exact A)).via st'
theorem Goes.initO (X : Cx p s m meth c Z y code maxL ret) {index : Nat} {a : Addr} (W : Nat) (w1 : (Jvm.Cond.methodLink y.cls index Lib.objectInit).before a0 Z = true) (w2 : (Jvm.Cond.instanceMethod Lib.objectInit).before a0 Z = true) (w3 : (Jvm.Cond.code Lib.objectInit ⟨#[0xb1]⟩ 1 none).before a0 Z = true) (hsize : Ls.size = maxL) (k : Goes p l e R s m args below meth c Z a0 h0 hS ws rc rs Q H cells slots (mkF m (pc + 3) Ls st)) (hd : oAt code pc (.invokespecial index, 3) = true := by decide +kernel) (hf : 1 ≤ R.frames := by decide) (hW : (st.map fun v => v.category).sum = W := by rfl) (hl : W + 12 ≤ R.locals := by decide) : Goes p l e R s m args below meth c Z a0 h0 hS ws rc rs Q H cells slots (mkF m pc Ls (.ref a :: st)) := fun T locs Y N A => by
  subst hW
  obtain ⟨T', Y', e', st'⟩ := RoadKit.initO Y X.1 X.2.2.2.2.2.2.2 X.2.2.2.1 w1 w2 w3 rfl (g := mkF m pc Ls (.ref a :: st)) rfl (hsize.trans X.2.2.1.symm) rfl (hb X.2.1 (oAt.dec hd)) hf (W := (st.map fun v => v.category).sum) (by show 2 * 0 + _ ≤ _; omega) hl
  exact (k T' locs Y' N (by rw [e']; exact A)).via st'
/-- the return -/
theorem Goes.fin {v : Option Value} {g : JFrame} (X : Cx p s m meth c Z y code maxL ret) (hv : ret = none → v = none) (hQ : Q v H) (hc : cells ≤ rc) (hs : slots ≤ rs) (hst : ∀ (T : State) (locs : List Loc) (fs : List Frame), Stand p l e R s m args below meth c T locs cells slots → (∀ (f : JFrame) (acts : List Action), f.method = m → f.locked = none → f.entered = [] → (doReturn e (T.setTop f) acts v).1 = T.setFrames fs) → Steps p.tables e below (T.setTop g) (T.setFrames fs)) :
    Goes p l e R s m args below meth c Z a0 h0 hS ws rc rs Q H cells slots g := fun T locs Y N A => by
  obtain ⟨fs, hr, hrun, hended, hW, hsame⟩ := Y.leave (v := v) (fun q => hv (X.2.2.2.2.2.1.symm.trans q)) X.2.2.2.2.2.2.1
  exact ⟨_, _, hst T locs fs Y hr, hrun, hended, v, locs, rfl, ⟨N, H, hQ, A⟩, ⟨_, rfl⟩, hW, hsame.mono hc hs⟩
theorem Goes.retV (X : Cx p s m meth c Z y code maxL none) (hQ : Q none H) (hd : oAt code pc (.return_, 1) = true := by decide +kernel) (hc : cells ≤ rc := by decide) (hs : slots ≤ rs := by decide) : Goes p l e R s m args below meth c Z a0 h0 hS ws rc rs Q H cells slots (mkF m pc Ls []) :=
  Goes.fin X (fun _ => rfl) hQ hc hs fun T locs fs Y hr => Y.returnOut X.1 X.2.2.2.2.2.1 (hb X.2.1 (oAt.dec hd)) hr
theorem Goes.retI {z : Int32} {t : FieldType} (X : Cx p s m meth c Z y code maxL (some t)) (ht : t = .int ∨ t = .boolean ∨ t = .byte ∨ t = .char ∨ t = .short) (hn : narrow t (.int z) = .int z) (hQ : Q (some (.int z)) H) (hd : oAt code pc (.ireturn, 1) = true := by decide +kernel) (hc : cells ≤ rc := by decide) (hs : slots ≤ rs := by decide) : Goes p l e R s m args below meth c Z a0 h0 hS ws rc rs Q H cells slots (mkF m pc Ls (.int z :: st)) :=
  Goes.fin X (fun q => by cases q) hQ hc hs fun T locs fs Y hr => retOut Y X.1 X.2.2.2.2.2.1 hn (Or.inl ⟨rfl, ht, z, rfl⟩) (hb X.2.1 (oAt.dec hd)) hr
theorem Goes.retJ {z : Int64} (X : Cx p s m meth c Z y code maxL (some .long)) (hQ : Q (some (.long z)) H) (hd : oAt code pc (.lreturn, 1) = true := by decide +kernel) (hc : cells ≤ rc := by decide) (hs : slots ≤ rs := by decide) : Goes p l e R s m args below meth c Z a0 h0 hS ws rc rs Q H cells slots (mkF m pc Ls (.long z :: st)) :=
  Goes.fin X (fun q => by cases q) hQ hc hs fun T locs fs Y hr => retOut Y X.1 X.2.2.2.2.2.1 rfl (Or.inr (Or.inl ⟨rfl, rfl, z, rfl⟩)) (hb X.2.1 (oAt.dec hd)) hr
theorem Goes.retA {v : Value} {t : FieldType} (X : Cx p s m meth c Z y code maxL (some t)) (ht : t.isReference = true) (hv : v.isRef = true) (hn : narrow t v = v) (hQ : Q (some v) H) (hd : oAt code pc (.areturn, 1) = true := by decide +kernel) (hc : cells ≤ rc := by decide) (hs : slots ≤ rs := by decide) : Goes p l e R s m args below meth c Z a0 h0 hS ws rc rs Q H cells slots (mkF m pc Ls (v :: st)) :=
  Goes.fin X (fun q => by cases q) hQ hc hs fun T locs fs Y hr => retOut Y X.1 X.2.2.2.2.2.1 hn (Or.inr (Or.inr (Or.inr (Or.inr ⟨rfl, ht, hv⟩)))) (hb X.2.1 (oAt.dec hd)) hr
/-- a static call -/
theorem Goes.callS (X : Cx p s m meth c Z y code maxL ret) {index : Nat} {y' : MethodName} {code' : ByteArray} {maxL' : Nat} {ret' : Option FieldType} {rm : Room} {argsL : List Value} {F G : OHp} {Q' : Option Value → OHp → Prop} (W : Nat) (ix rx : List Nat) (D : Does l Z a0 h0 y' code' maxL' ret' rm argsL.toArray F Q') (w1 : (Jvm.Cond.methodLink y.cls index y').before a0 Z = true) (w2 : (Jvm.Cond.static y').before a0 Z = true) (w3 : (Jvm.Cond.initialized y'.cls).before a0 Z = true) (w4 : (Jvm.Cond.code y' code' maxL' ret').before a0 Z = true) {ps : List FieldType} {r : Option FieldType} (hpd : parseMethodDescriptor y'.desc = some ⟨ps, r⟩) (hlen : argsL.length = ps.length) {stk : List Value} (hstk : stk = argsL.reverse ++ st) (hsize : Ls.size = maxL) (hF : ix.map (fun i => H[i]?) = F.map some) (hG : rx.map (fun i => H[i]?) = G.map some) (k : ∀ v F', Q' v F' → Goes p l e R s m args below meth c Z a0 h0 hS ws rc rs Q (F' ++ G) (cells + rm.cells) (slots + rm.slots) (mkF m (pc + 3) Ls (v.toList ++ st))) (hy : y'.cls ≠ "java/lang/invoke/MethodHandle" ∧ y'.cls ≠ "java/lang/invoke/VarHandle" := by decide) (hN : (ix ++ rx).Nodup := by decide) (hd : oAt code pc (.invokestatic index, 3) = true := by decide +kernel) (hfr : rm.frames + 1 ≤ R.frames := by decide) (hW : (st.map fun v => v.category).sum = W := by rfl) (hlo : W + (maxL' + 11) + rm.locals ≤ R.locals := by decide) (hce : cells + rm.cells ≤ R.cells := by decide) (hsl : slots + rm.slots ≤ R.slots := by decide) : Goes p l e R s m args below meth c Z a0 h0 hS ws rc rs Q H cells slots (mkF m pc Ls stk) := fun T locs Y N A => by
  subst hstk hW
  have NN := List.nodup_append.mp hN
  obtain ⟨v, vm1, ⟨T', L', k', n'⟩, -, Y', ⟨Lc, ⟨N', F', hQ', B⟩, l', k'', n''⟩, st'⟩ := Jvm.LawKit.callS Y X.1 (y := y') X.2.2.2.1 (mvT X.2.2.2.2.2.2.2 w1) (mvT X.2.2.2.2.2.2.2 w2) (mvT X.2.2.2.2.2.2.2 w3) (mvT X.2.2.2.2.2.2.2 w4) hy
    (backOf (W := (st.map fun v => v.category).sum) (Q := fun v h' L => Fr h0.size L ∧ ∃ F', Q' v F' ∧ Hp Z a0 h0 T.heap (F.map (·.1)) h' F') (D [] T.heap ((A.sub ix hF NN.1).enter)) X.2.2.2.2.2.2.2 w4 w3 hfr hlo) (g := mkF m pc Ls (argsL.reverse ++ st)) rfl (hsize.trans X.2.2.1.symm) (argsL := argsL) (rest := st) (lenOf hpd hlen) rfl (by show 2 * 0 + _ ≤ _; omega) (hb X.2.1 (oAt.dec hd)) (fun _ _ => ⟨rfl, rfl, hce, hsl⟩)
  dsimp only [Pt.U, Pt.locs, Pt.cells, Pt.slots] at Y' l' k'' n'' st' B
  subst l' k'' n''
  exact (k v F' hQ' T' _ Y' (N.app N') (A.back hF hG hN B)).via st'
/-- a constructor's call -/
theorem Goes.callN (X : Cx p s m meth c Z y code maxL ret) {index : Nat} {y' : MethodName} {code' : ByteArray} {maxL' : Nat} {rm : Room} {argsL : List Value} {a : Addr} {F G : OHp} {Q' : Option Value → OHp → Prop} (W : Nat) (ix rx : List Nat) (D : Does l Z a0 h0 y' code' maxL' none rm (.ref a :: argsL).toArray F Q') (hy1 : y'.name = "<init>") (w1 : (Jvm.Cond.methodLink y.cls index y').before a0 Z = true) (w2 : (Jvm.Cond.instanceMethod y').before a0 Z = true) (w3 : (Jvm.Cond.initialized y'.cls).before a0 Z = true) (w4 : (Jvm.Cond.code y' code' maxL' none).before a0 Z = true) {ps : List FieldType} {r : Option FieldType} (hpd : parseMethodDescriptor y'.desc = some ⟨ps, r⟩) (hlen : argsL.length = ps.length) {stk : List Value} (hstk : stk = argsL.reverse ++ .ref a :: st) (hsize : Ls.size = maxL) (hF : ix.map (fun i => H[i]?) = F.map some) (hG : rx.map (fun i => H[i]?) = G.map some) (k : ∀ v F', Q' v F' → Goes p l e R s m args below meth c Z a0 h0 hS ws rc rs Q (F' ++ G) (cells + rm.cells) (slots + rm.slots) (mkF m (pc + 3) Ls (v.toList ++ st))) (hy : y'.cls ≠ "java/lang/invoke/MethodHandle" ∧ y'.cls ≠ "java/lang/invoke/VarHandle" := by decide) (hN : (ix ++ rx).Nodup := by decide) (hd : oAt code pc (.invokespecial index, 3) = true := by decide +kernel) (hfr : rm.frames + 1 ≤ R.frames := by decide) (hW : (st.map fun v => v.category).sum = W := by rfl) (hlo : W + (maxL' + 11) + rm.locals ≤ R.locals := by decide) (hce : cells + rm.cells ≤ R.cells := by decide) (hsl : slots + rm.slots ≤ R.slots := by decide) : Goes p l e R s m args below meth c Z a0 h0 hS ws rc rs Q H cells slots (mkF m pc Ls stk) := fun T locs Y N A => by
  subst hstk hW
  have NN := List.nodup_append.mp hN
  obtain ⟨v, vm1, ⟨T', L', k', n'⟩, -, Y', ⟨Lc, ⟨N', F', hQ', B⟩, l', k'', n''⟩, st'⟩ := Y.specialBack X.1 (y := y') hy1 X.2.2.2.1 (mvT X.2.2.2.2.2.2.2 w1) (mvT X.2.2.2.2.2.2.2 w2) (mvT X.2.2.2.2.2.2.2 w4) hy
    (backOf (W := (st.map fun v => v.category).sum) (Q := fun v h' L => Fr h0.size L ∧ ∃ F', Q' v F' ∧ Hp Z a0 h0 T.heap (F.map (·.1)) h' F') (D [] T.heap ((A.sub ix hF NN.1).enter)) X.2.2.2.2.2.2.2 w4 w3 hfr hlo) (g := mkF m pc Ls (argsL.reverse ++ .ref a :: st)) rfl (hsize.trans X.2.2.1.symm) (Steps.refl _) (a := a) (argsL := argsL) (rest := st) (lenOf hpd hlen) rfl (by show 2 * 0 + _ ≤ _; omega) (hb X.2.1 (oAt.dec hd)) (fun _ _ => ⟨rfl, rfl, hce, hsl⟩)
  dsimp only [Pt.U, Pt.locs, Pt.cells, Pt.slots] at Y' l' k'' n'' st' B
  subst l' k'' n''
  exact (k v F' hQ' T' _ Y' (N.app N') (A.back hF hG hN B)).via fun t q => st'.trans q
/-- a virtual call on an object of the list -/
theorem Goes.callV (X : Cx p s m meth c Z y code maxL ret) {index : Nat} {y' z' : MethodName} {code' : ByteArray} {maxL' : Nat} {ret' : Option FieldType} {rm : Room} {argsL : List Value} {a : Addr} {C : String} {F G : OHp} {Q' : Option Value → OHp → Prop} (W : Nat) (i : Nat) (ix rx : List Nat) {fs : List OFld} (hi : H[i]? = some (a, ob C fs)) (D : Does l Z a0 h0 z' code' maxL' ret' rm (.ref a :: argsL).toArray F Q') (w1 : (Jvm.Cond.methodLink y.cls index y').before a0 Z = true) (w2 : (Jvm.Cond.declares y').before a0 Z = true) (w5 : (Jvm.Cond.selects C y' z').before a0 Z = true) (w6 : (Jvm.Cond.instanceMethod z').before a0 Z = true) (nf : NotFace s y') (w3 : (Jvm.Cond.initialized z'.cls).before a0 Z = true) (w4 : (Jvm.Cond.code z' code' maxL' ret').before a0 Z = true) {ps : List FieldType} {r : Option FieldType} (hpd : parseMethodDescriptor y'.desc = some ⟨ps, r⟩) (hlen : argsL.length = ps.length) {stk : List Value} (hstk : stk = argsL.reverse ++ .ref a :: st) (hsize : Ls.size = maxL) (hF : ix.map (fun i => H[i]?) = F.map some) (hG : rx.map (fun i => H[i]?) = G.map some) (k : ∀ v F', Q' v F' → Goes p l e R s m args below meth c Z a0 h0 hS ws rc rs Q (F' ++ G) (cells + rm.cells) (slots + rm.slots) (mkF m (pc + 3) Ls (v.toList ++ st))) (hy : y'.cls ≠ "java/lang/invoke/MethodHandle" ∧ y'.cls ≠ "java/lang/invoke/VarHandle" := by decide) (hN : (ix ++ rx).Nodup := by decide) (hd : oAt code pc (.invokevirtual index, 3) = true := by decide +kernel) (hfr : rm.frames + 1 ≤ R.frames := by decide) (hW : (st.map fun v => v.category).sum = W := by rfl) (hlo : W + (maxL' + 11) + rm.locals ≤ R.locals := by decide) (hce : cells + rm.cells ≤ R.cells := by decide) (hsl : slots + rm.slots ≤ R.slots := by decide) : Goes p l e R s m args below meth c Z a0 h0 hS ws rc rs Q H cells slots (mkF m pc Ls stk) := fun T locs Y N A => by
  subst hstk hW
  have NN := List.nodup_append.mp hN
  obtain ⟨cq, kq, qa, qb, qc⟩ := isOf (T := T) X.2.2.2.2.2.2.2 rfl (A.at hi).1
  obtain ⟨v, vm1, ⟨T', L', k', n'⟩, -, Y', ⟨Lc, ⟨N', F', hQ', B⟩, l', k'', n''⟩, st'⟩ := Y.virtualBack X.1 (y := y') (z := z') X.2.2.2.1 (mvT X.2.2.2.2.2.2.2 w1) (mvT X.2.2.2.2.2.2.2 w2) nf (mvT X.2.2.2.2.2.2.2 w5) (mvT X.2.2.2.2.2.2.2 w6) hy
    (backOf (W := (st.map fun v => v.category).sum) (Q := fun v h' L => Fr h0.size L ∧ ∃ F', Q' v F' ∧ Hp Z a0 h0 T.heap (F.map (·.1)) h' F') (D [] T.heap ((A.sub ix hF NN.1).enter)) X.2.2.2.2.2.2.2 w4 w3 hfr hlo) qa qc (g := mkF m pc Ls (argsL.reverse ++ .ref a :: st)) rfl (hsize.trans X.2.2.1.symm) (Steps.refl _) (argsL := argsL) (rest := st) (lenOf hpd hlen) rfl (by show 2 * 0 + _ ≤ _; omega) (hb X.2.1 (oAt.dec hd)) (fun _ _ => ⟨rfl, rfl, hce, hsl⟩)
  dsimp only [Pt.U, Pt.locs, Pt.cells, Pt.slots] at Y' l' k'' n'' st' B
  subst l' k'' n''
  exact (k v F' hQ' T' _ Y' (N.app N') (A.back hF hG hN B)).via fun t q => st'.trans q
theorem own_nf (X : Cx p s m meth c Z y code maxL ret) {C : String} {y' : MethodName} (w5 : (Jvm.Cond.selects C y' y').before a0 Z = true) : NotFace s y' := notFace_of_selects (args := #[]) (mvT X.2.2.2.2.2.2.2 w5)
end Goes
/-! ## own kit, part 4: arrays; objects that stood at the start -/
section Arrs
variable {p : Program} {l : Launch} {e : Env} {R : Room} {s : State} {m : MethodId} {args : Array Value} {below : List Frame} {meth : Method} {c : Code} {Z : State} {a0 : Array Value} {h0 hS : Heap} {ws : List Addr} {rc rs : Nat} {Q : Option Value → OHp → Prop} {H : OHp} {cells slots : Nat} {y : MethodName} {code : ByteArray} {maxL : Nat} {ret : Option FieldType} {pc : Nat} {Ls : Array Slot} {st : List Value}
theorem Goes.newarr (X : Cx p s m meth c Z y code maxL ret) {aty : ArrayType} {n : Int32} (D : String) (nn cap : Nat) (w : (Jvm.Cond.arrayClass (newarray.typeOf aty)).before a0 Z = true) (hD : "[" ++ (newarray.typeOf aty).toString = D) (hn : ¬ n < 0) (hnn : n.toNatClampNeg = nn) (k : ∀ a, Goes p l e R s m args below meth c Z a0 h0 hS ws rc rs Q (H ++ [(a, ar D (newarray.typeOf aty) (List.replicate nn (defaultValue (newarray.typeOf aty))))]) (cells + 1) (slots + cap) (mkF m (pc + 2) Ls (.ref a :: st))) (hd : oAt code pc (.newarray aty, 2) = true := by decide +kernel) (hcap : nn ≤ cap := by decide) (hb8 : cap * 8 ≤ 536870912 := by decide) (hc : cells + 1 ≤ R.cells := by decide) (hl : slots + cap ≤ R.slots := by decide) : Goes p l e R s m args below meth c Z a0 h0 hS ws rc rs Q H cells slots (mkF m pc Ls (.int n :: st)) := fun T locs Y N A => by
  have hZ := X.2.2.2.2.2.2.2
  have hcb : componentBytes (newarray.typeOf aty) ≤ 8 := by cases aty <;> decide
  subst hnn hD
  obtain ⟨cA, kA, comp, h1, h2, h3, Y', st'⟩ := Y.newarrayPrim X.1 (mvA hZ w) (g := mkF m pc Ls (.int n :: st)) rfl (hb X.2.1 (oAt.dec hd)) rfl hn (Nat.le_trans (Nat.mul_le_mul hcap hcb) hb8) hc (by omega)
  rw [hZ.alike.findClass] at h1
  obtain ⟨kZ, z1, -⟩ := Vm.findClass_spec h1
  obtain ⟨k', z2, z3⟩ := hZ.alike.2.2 _ _ z1
  cases h2.symm.trans z2
  refine (k T.heap.size _ locs (Y'.more (Nat.le_refl _) (by omega)) N ?_).via st'
  refine A.new (ext_of fun a q => Array.getElem?_push_lt q |>.trans (Array.getElem?_eq_getElem q).symm) ?_
  refine ⟨newA cA (newarray.typeOf aty) n, ⟨?_, ⟨by simp [newA], kZ, z1, comp, by rw [← h3, z3]⟩, by simp [newA]⟩, ?_, ?_, h1, ?_⟩
  · show (T.heap.push _)[T.heap.size]? = _; simp [newA]
  · simp [newA]
  · rw [List.length_replicate]; exact (back32 hn).2
  · intro v hv
    rw [List.eq_of_mem_replicate hv]
    cases aty <;> rfl
theorem Goes.anewarr (X : Cx p s m meth c Z y code maxL ret) {C : String} {index : Nat} {n : Int32} (D : String) (nn cap : Nat) (w : (Jvm.Cond.classLink y.cls index C).before a0 Z = true) (w2 : (Jvm.Cond.arrayOver (.object C)).before a0 Z = true) (hD : "[" ++ (FieldType.object C).toString = D) (hn : ¬ n < 0) (hnn : n.toNatClampNeg = nn) (k : ∀ a, Goes p l e R s m args below meth c Z a0 h0 hS ws rc rs Q (H ++ [(a, ar D (.object C) (List.replicate nn .null))]) (cells + 1) (slots + cap) (mkF m (pc + 3) Ls (.ref a :: st))) (hd : oAt code pc (.anewarray index, 3) = true := by decide +kernel) (hcap : nn ≤ cap := by decide) (hb8 : cap * 8 ≤ 536870912 := by decide) (hc : cells + 1 ≤ R.cells := by decide) (hl : slots + cap ≤ R.slots := by decide) : Goes p l e R s m args below meth c Z a0 h0 hS ws rc rs Q H cells slots (mkF m pc Ls (.int n :: st)) := fun T locs Y N A => by
  have hZ := X.2.2.2.2.2.2.2
  subst hnn hD
  have w2' : (Jvm.Cond.arrayOver (.object C)).before args s = true := Cond.arrayOver_alike hZ.alike w2
  obtain ⟨vm₁, cA, kA, comp, -, h1, h2, h3, h4, Y', st'⟩ := Y.anewarrayRefK X.1 X.2.2.2.1 (mv hZ w) w2' (g := mkF m pc Ls (.int n :: st)) rfl (hb X.2.1 (oAt.dec hd)) rfl hn (by omega) hc (by omega)
  rw [hZ.alike.findClass] at h1
  obtain ⟨kZ, z1, -⟩ := Vm.findClass_spec h1
  obtain ⟨k', z2, z3⟩ := hZ.alike.2.2 _ _ z1
  cases h2.symm.trans z2
  refine (k T.heap.size _ locs (Y'.more (Nat.le_refl _) (by omega)) N ?_).via st'
  refine A.new (ext_of fun a q => Array.getElem?_push_lt q |>.trans (Array.getElem?_eq_getElem q).symm) ?_
  refine ⟨newA cA (.object C) n, ⟨?_, ⟨by simp [newA], kZ, z1, comp, by rw [← h3, z3]⟩, by simp [newA]⟩, ?_, ?_, h1, ?_⟩
  · show (T.heap.push _)[T.heap.size]? = _; simp [newA, defaultValue]
  · simp [newA, defaultValue]
  · rw [List.length_replicate]; exact (back32 hn).2
  · intro v hv
    rw [List.eq_of_mem_replicate hv]; rfl
theorem own_inb {cl : Cell} {vs : List Value} {j : Int32} {jn : Nat} (hs : cl.slots = vs.toArray) (hj : j.toNatClampNeg = jn) (h0 : ¬ j < 0) (hlt : jn < vs.length) : ¬ (j < 0 ∨ cl.slots.size ≤ j.toNatClampNeg) := by
  subst hj; rw [hs]; simp only [List.size_toArray]; rintro (q | q)
  · exact h0 q
  · omega
theorem own_get {cl : Cell} {vs : List Value} {j : Int32} {jn : Nat} {v : Value} (hs : cl.slots = vs.toArray) (hj : j.toNatClampNeg = jn) (hv : vs[jn]? = some v) : cl.slots[j.toNatClampNeg]? = some v := by
  rw [hs, hj]; simpa using hv
theorem Goes.alen (X : Cx p s m meth c Z y code maxL ret) (i : Nat) {a : Addr} {D : String} {ty : FieldType} {vs : List Value} {n : Int32} (hi : H[i]? = some (a, ar D ty vs)) (hn : vs.length.toInt32 = n) (k : Goes p l e R s m args below meth c Z a0 h0 hS ws rc rs Q H cells slots (mkF m (pc + 1) Ls (.int n :: st))) (hd : oAt code pc (.arraylength, 1) = true := by decide +kernel) : Goes p l e R s m args below meth c Z a0 h0 hS ws rc rs Q H cells slots (mkF m pc Ls (.ref a :: st)) := fun T locs Y N A => by
  obtain ⟨cl, O, hs, -⟩ := A.at hi
  refine (k T locs Y N A).via fun t q => Y.arraylength X.1 O.1 (State.isArrayOf_alike X.2.2.2.2.2.2.2.alike O.2.1) (g := mkF m pc Ls (.ref a :: st)) rfl rfl (hb X.2.1 (oAt.dec hd)) t ?_
  rw [hs, List.size_toArray, hn]; exact q
theorem Goes.caload (X : Cx p s m meth c Z y code maxL ret) (i jn : Nat) {a : Addr} {D : String} {vs : List Value} {j : Int32} {v : Value} (hi : H[i]? = some (a, ar D .char vs)) (hj : j.toNatClampNeg = jn) (hj0 : ¬ j < 0) (hv : vs[jn]? = some v) (k : Goes p l e R s m args below meth c Z a0 h0 hS ws rc rs Q H cells slots (mkF m (pc + 1) Ls (v :: st))) (hd : oAt code pc (.caload, 1) = true := by decide +kernel) : Goes p l e R s m args below meth c Z a0 h0 hS ws rc rs Q H cells slots (mkF m pc Ls (.int j :: .ref a :: st)) := fun T locs Y N A => by
  obtain ⟨cl, O, hs, -⟩ := A.at hi
  exact (k T locs Y N A).via fun t q => Y.caload X.1 O.1 (State.isArrayOf_alike X.2.2.2.2.2.2.2.alike O.2.1) O.2.2 (own_inb hs hj hj0 (List.getElem?_eq_some_iff.mp hv).1) (own_get hs hj hv) (g := mkF m pc Ls (.int j :: .ref a :: st)) rfl rfl (hb X.2.1 (oAt.dec hd)) t q
theorem Goes.baload (X : Cx p s m meth c Z y code maxL ret) (i jn : Nat) {a : Addr} {D : String} {vs : List Value} {j : Int32} {v : Value} (hi : H[i]? = some (a, ar D .byte vs)) (hj : j.toNatClampNeg = jn) (hj0 : ¬ j < 0) (hv : vs[jn]? = some v) (k : Goes p l e R s m args below meth c Z a0 h0 hS ws rc rs Q H cells slots (mkF m (pc + 1) Ls (v :: st))) (hd : oAt code pc (.baload, 1) = true := by decide +kernel) : Goes p l e R s m args below meth c Z a0 h0 hS ws rc rs Q H cells slots (mkF m pc Ls (.int j :: .ref a :: st)) := fun T locs Y N A => by
  obtain ⟨cl, O, hs, -⟩ := A.at hi
  exact (k T locs Y N A).via fun t q => Y.baloadBytes X.1 O.1 (State.isArrayOf_alike X.2.2.2.2.2.2.2.alike O.2.1) O.2.2 (own_inb hs hj hj0 (List.getElem?_eq_some_iff.mp hv).1) (own_get hs hj hv) (g := mkF m pc Ls (.int j :: .ref a :: st)) rfl rfl (hb X.2.1 (oAt.dec hd)) t q
theorem Goes.aaload (X : Cx p s m meth c Z y code maxL ret) (i jn : Nat) {a : Addr} {D : String} {ty : FieldType} {vs : List Value} {j : Int32} {v : Value} (hi : H[i]? = some (a, ar D ty vs)) (hty : ty.isReference = true) (hj : j.toNatClampNeg = jn) (hj0 : ¬ j < 0) (hv : vs[jn]? = some v) (k : Goes p l e R s m args below meth c Z a0 h0 hS ws rc rs Q H cells slots (mkF m (pc + 1) Ls (v :: st))) (hd : oAt code pc (.aaload, 1) = true := by decide +kernel) : Goes p l e R s m args below meth c Z a0 h0 hS ws rc rs Q H cells slots (mkF m pc Ls (.int j :: .ref a :: st)) := fun T locs Y N A => by
  obtain ⟨cl, O, hs, -⟩ := A.at hi
  exact (k T locs Y N A).via fun t q => Y.aaload X.1 O.1 (State.isArrayOf_alike X.2.2.2.2.2.2.2.alike O.2.1) hty O.2.2 (own_inb hs hj hj0 (List.getElem?_eq_some_iff.mp hv).1) (own_get hs hj hv) (g := mkF m pc Ls (.int j :: .ref a :: st)) rfl rfl (hb X.2.1 (oAt.dec hd)) t q
theorem Goes.castore (X : Cx p s m meth c Z y code maxL ret) (i jn : Nat) {a : Addr} {D : String} {vs : List Value} {j x : Int32} (hi : H[i]? = some (a, ar D .char vs)) (hj : j.toNatClampNeg = jn) (hj0 : ¬ j < 0) (hlt : jn < vs.length) (k : Goes p l e R s m args below meth c Z a0 h0 hS ws rc rs Q (H.set i (a, ar D .char (vs.set jn (.int (nar .char x))))) cells slots (mkF m (pc + 1) Ls st)) (hd : oAt code pc (.castore, 1) = true := by decide +kernel) : Goes p l e R s m args below meth c Z a0 h0 hS ws rc rs Q H cells slots (mkF m pc Ls (.int x :: .int j :: .ref a :: st)) := fun T locs Y N A => by
  have O := A.at hi
  obtain ⟨cl, O1, hs, -⟩ := A.at hi
  subst hj
  obtain ⟨T', h', Y', e', W, st'⟩ := stC Y X.1 X.2.2.2.2.2.2.2 rfl O1 (own_inb hs rfl hj0 hlt) (g := mkF m pc Ls (.int x :: .int j :: .ref a :: st)) rfl rfl (hb X.2.1 (oAt.dec hd))
  refine (k T' _ Y' (Fr.snoc Y' N (A.2.2.1 i _ hi).1) ?_).via st'
  rw [e']
  exact A.wr hi W (OKa.store O W (fits_nar_char x))
theorem Goes.bastore (X : Cx p s m meth c Z y code maxL ret) (i jn : Nat) {a : Addr} {D : String} {vs : List Value} {j x : Int32} (hi : H[i]? = some (a, ar D .byte vs)) (hj : j.toNatClampNeg = jn) (hj0 : ¬ j < 0) (hlt : jn < vs.length) (k : Goes p l e R s m args below meth c Z a0 h0 hS ws rc rs Q (H.set i (a, ar D .byte (vs.set jn (.int (nar .byte x))))) cells slots (mkF m (pc + 1) Ls st)) (hd : oAt code pc (.bastore, 1) = true := by decide +kernel) : Goes p l e R s m args below meth c Z a0 h0 hS ws rc rs Q H cells slots (mkF m pc Ls (.int x :: .int j :: .ref a :: st)) := fun T locs Y N A => by
  have O := A.at hi
  obtain ⟨cl, O1, hs, -⟩ := A.at hi
  subst hj
  obtain ⟨T', h', Y', e', W, st'⟩ := stB Y X.1 X.2.2.2.2.2.2.2 rfl O1 (own_inb hs rfl hj0 hlt) (g := mkF m pc Ls (.int x :: .int j :: .ref a :: st)) rfl rfl (hb X.2.1 (oAt.dec hd))
  refine (k T' _ Y' (Fr.snoc Y' N (A.2.2.1 i _ hi).1) ?_).via st'
  rw [e']
  exact A.wr hi W (OKa.store O W (fits_nar_byte x))
theorem own_fitC {h : Heap} {a : Addr} {cl : Cell} {ty : FieldType} {vs : List Value} (O : Arr Z h a cl ty) (hs : cl.slots = vs.toArray) (hv : ∀ v ∈ vs, fits ty v = true) : FitC Z cl := fun i v q => by
  obtain ⟨-, k, hk, comp, hkind⟩ := O.2.1
  rw [hs] at q
  have q2 : v ∈ vs := List.mem_of_getElem? (by simpa using q)
  simp [State.fitsSlot, State.slotType?, hk, hkind, hv v q2]
theorem Goes.clone (X : Cx p s m meth c Z y code maxL ret) {index : Nat} (W : Nat) (i : Nat) (cap : Nat) {a : Addr} {D : String} {ty : FieldType} {vs : List Value} (w1 : (Jvm.Cond.methodLink y.cls index ⟨D, "clone", "()Ljava/lang/Object;"⟩).before a0 Z = true) (w2 : (Jvm.Cond.sameMethod D "java/lang/Object" "clone" "()Ljava/lang/Object;").before a0 Z = true) (w3 : (Jvm.Cond.native ⟨"java/lang/Object", "clone", "()Ljava/lang/Object;"⟩).before a0 Z = true) (w4 : (Jvm.Cond.instanceMethod ⟨"java/lang/Object", "clone", "()Ljava/lang/Object;"⟩).before a0 Z = true) (w5 : (Jvm.Cond.selects D ⟨D, "clone", "()Ljava/lang/Object;"⟩ ⟨"java/lang/Object", "clone", "()Ljava/lang/Object;"⟩).before a0 Z = true) (w6 : (Jvm.Cond.castable D "java/lang/Cloneable").before a0 Z = true) (hi : H[i]? = some (a, ar D ty vs)) (hsize : Ls.size = maxL) (k : ∀ b, Goes p l e R s m args below meth c Z a0 h0 hS ws rc rs Q (H ++ [(b, ar D ty vs)]) (cells + 1) (slots + cap) (mkF m (pc + 3) Ls (.ref b :: st))) (hd : oAt code pc (.invokevirtual index, 3) = true := by decide +kernel) (hf : 1 ≤ R.frames := by decide) (hW : (st.map fun v => v.category).sum = W := by rfl) (hl : W + 14 ≤ R.locals := by decide) (hcap : vs.length ≤ cap := by decide) (hc : cells + 1 ≤ R.cells := by decide) (hsl : slots + cap ≤ R.slots := by decide) : Goes p l e R s m args below meth c Z a0 h0 hS ws rc rs Q H cells slots (mkF m pc Ls (.ref a :: st)) := fun T locs Y N A => by
  have E := (A.at hi : OKa Z T.heap a D ty vs).exa
  obtain ⟨cl, O1, hs, hlen, hfc, hv⟩ := A.at hi
  subst hW
  obtain ⟨T', h', Y', e', E', A', X', st'⟩ := cloneA Y X.1 X.2.2.2.2.2.2.2 X.2.2.2.1 w1 w2 w3 w4 w5 w6 rfl O1 E (own_fitC O1 hs hv) (g := mkF m pc Ls (.ref a :: st)) rfl (hsize.trans X.2.2.1.symm) rfl (hb X.2.1 (oAt.dec hd)) hf (W := (st.map fun v => v.category).sum) (cap := cap) (by show 2 * 0 + _ ≤ _; omega) hl (by rw [hs, List.size_toArray]; exact hcap) hc hsl
  refine (k T.heap.size T' locs Y' N ?_).via st'
  rw [e']
  exact A.new E' ⟨_, A', hs, hlen, hfc, hv⟩
theorem Goes.castA (X : Cx p s m meth c Z y code maxL ret) {K : String} {index : Nat} (i : Nat) {a : Addr} {D : String} {ty : FieldType} {vs : List Value} (w : (Jvm.Cond.classLink y.cls index K).before a0 Z = true) (wc : (Jvm.Cond.castable D K).before a0 Z = true) (hi : H[i]? = some (a, ar D ty vs)) (k : Goes p l e R s m args below meth c Z a0 h0 hS ws rc rs Q H cells slots (mkF m (pc + 3) Ls (.ref a :: st))) (hd : oAt code pc (.checkcast index, 3) = true := by decide +kernel) : Goes p l e R s m args below meth c Z a0 h0 hS ws rc rs Q H cells slots (mkF m pc Ls (.ref a :: st)) := fun T locs Y N A => by
  have E := (A.at hi : OKa Z T.heap a D ty vs).exa
  obtain ⟨T', Y', e', st'⟩ := castY Y X.1 X.2.2.2.2.2.2.2 X.2.2.2.1 w rfl (Ins.of_exa E wc) (g := mkF m pc Ls (.ref a :: st)) rfl rfl (hb X.2.1 (oAt.dec hd))
  exact (k T' locs Y' N (by rw [e']; exact A)).via st'
theorem Goes.castO (X : Cx p s m meth c Z y code maxL ret) {K : String} {index : Nat} (i : Nat) {a : Addr} {C : String} {fs : List OFld} (w : (Jvm.Cond.classLink y.cls index K).before a0 Z = true) (wc : (Jvm.Cond.castable C K).before a0 Z = true) (hi : H[i]? = some (a, ob C fs)) (k : Goes p l e R s m args below meth c Z a0 h0 hS ws rc rs Q H cells slots (mkF m (pc + 3) Ls (.ref a :: st))) (hd : oAt code pc (.checkcast index, 3) = true := by decide +kernel) : Goes p l e R s m args below meth c Z a0 h0 hS ws rc rs Q H cells slots (mkF m pc Ls (.ref a :: st)) := fun T locs Y N A => by
  obtain ⟨T', Y', e', st'⟩ := castY Y X.1 X.2.2.2.2.2.2.2 X.2.2.2.1 w rfl (Ins.of_exa (A.at hi).1 wc) (g := mkF m pc Ls (.ref a :: st)) rfl rfl (hb X.2.1 (oAt.dec hd))
  exact (k T' locs Y' N (by rw [e']; exact A)).via st'
/-- a field of an object that stood at the start -/
theorem Goes.getFo (X : Cx p s m meth c Z y code maxL ret) {R0 O n d : String} {index : Nat} {a : Addr} {v : Value} (w : (Jvm.Cond.fieldLink y.cls index R0 n d).before a0 Z = true) (via : Via Z R0 O n d) (F : Fld Z h0 a O n d v) (k : Goes p l e R s m args below meth c Z a0 h0 hS ws rc rs Q H cells slots (mkF m (pc + 3) Ls (v :: st))) (hd : oAt code pc (.getfield index, 3) = true := by decide +kernel) : Goes p l e R s m args below meth c Z a0 h0 hS ws rc rs Q H cells slots (mkF m pc Ls (.ref a :: st)) := fun T locs Y N A => by
  obtain ⟨T', Y', e', st'⟩ := RoadKit.getF Y X.1 X.2.2.2.2.2.2.2 (host := "") X.2.2.2.1 (Or.inl w) via rfl (F.ext A.1) (g := mkF m pc Ls (.ref a :: st)) rfl rfl (hb X.2.1 (oAt.dec hd))
  exact (k T' locs Y' N (by rw [e']; exact A)).via st'
/-- a virtual call on an object that stood at the start -/
theorem Goes.callVo (X : Cx p s m meth c Z y code maxL ret) {index : Nat} {y' z' : MethodName} {code' : ByteArray} {maxL' : Nat} {ret' : Option FieldType} {rm : Room} {argsL : List Value} {a : Addr} {C : String} {F G : OHp} {Q' : Option Value → OHp → Prop} (W : Nat) (ix rx : List Nat) (E : Exa Z h0 a C) (D : Does l Z a0 h0 z' code' maxL' ret' rm (.ref a :: argsL).toArray F Q') (w1 : (Jvm.Cond.methodLink y.cls index y').before a0 Z = true) (w2 : (Jvm.Cond.declares y').before a0 Z = true) (w5 : (Jvm.Cond.selects C y' z').before a0 Z = true) (w6 : (Jvm.Cond.instanceMethod z').before a0 Z = true) (nf : NotFace s y') (w3 : (Jvm.Cond.initialized z'.cls).before a0 Z = true) (w4 : (Jvm.Cond.code z' code' maxL' ret').before a0 Z = true) {ps : List FieldType} {r : Option FieldType} (hpd : parseMethodDescriptor y'.desc = some ⟨ps, r⟩) (hlen : argsL.length = ps.length) {stk : List Value} (hstk : stk = argsL.reverse ++ .ref a :: st) (hsize : Ls.size = maxL) (hF : ix.map (fun i => H[i]?) = F.map some) (hG : rx.map (fun i => H[i]?) = G.map some) (k : ∀ v F', Q' v F' → Goes p l e R s m args below meth c Z a0 h0 hS ws rc rs Q (F' ++ G) (cells + rm.cells) (slots + rm.slots) (mkF m (pc + 3) Ls (v.toList ++ st))) (hy : y'.cls ≠ "java/lang/invoke/MethodHandle" ∧ y'.cls ≠ "java/lang/invoke/VarHandle" := by decide) (hN : (ix ++ rx).Nodup := by decide) (hd : oAt code pc (.invokevirtual index, 3) = true := by decide +kernel) (hfr : rm.frames + 1 ≤ R.frames := by decide) (hW : (st.map fun v => v.category).sum = W := by rfl) (hlo : W + (maxL' + 11) + rm.locals ≤ R.locals := by decide) (hce : cells + rm.cells ≤ R.cells := by decide) (hsl : slots + rm.slots ≤ R.slots := by decide) : Goes p l e R s m args below meth c Z a0 h0 hS ws rc rs Q H cells slots (mkF m pc Ls stk) := fun T locs Y N A => by
  subst hstk hW
  have NN := List.nodup_append.mp hN
  obtain ⟨cq, kq, qa, qb, qc⟩ := isOf (T := T) X.2.2.2.2.2.2.2 rfl (E.ext A.1)
  obtain ⟨v, vm1, ⟨T', L', k', n'⟩, -, Y', ⟨Lc, ⟨N', F', hQ', B⟩, l', k'', n''⟩, st'⟩ := Y.virtualBack X.1 (y := y') (z := z') X.2.2.2.1 (mvT X.2.2.2.2.2.2.2 w1) (mvT X.2.2.2.2.2.2.2 w2) nf (mvT X.2.2.2.2.2.2.2 w5) (mvT X.2.2.2.2.2.2.2 w6) hy
    (backOf (W := (st.map fun v => v.category).sum) (Q := fun v h' L => Fr h0.size L ∧ ∃ F', Q' v F' ∧ Hp Z a0 h0 T.heap (F.map (·.1)) h' F') (D [] T.heap ((A.sub ix hF NN.1).enter)) X.2.2.2.2.2.2.2 w4 w3 hfr hlo) qa qc (g := mkF m pc Ls (argsL.reverse ++ .ref a :: st)) rfl (hsize.trans X.2.2.1.symm) (Steps.refl _) (argsL := argsL) (rest := st) (lenOf hpd hlen) rfl (by show 2 * 0 + _ ≤ _; omega) (hb X.2.1 (oAt.dec hd)) (fun _ _ => ⟨rfl, rfl, hce, hsl⟩)
  dsimp only [Pt.U, Pt.locs, Pt.cells, Pt.slots] at Y' l' k'' n'' st' B
  subst l' k'' n''
  exact (k v F' hQ' T' _ Y' (N.app N') (A.back hF hG hN B)).via fun t q => st'.trans q
end Arrs
/-! ## own kit, part 5: own, interface and nest calls -/
section Calls
variable {p : Program} {l : Launch} {e : Env} {R : Room} {s : State} {m : MethodId} {args : Array Value} {below : List Frame} {meth : Method} {c : Code} {Z : State} {a0 : Array Value} {h0 hS : Heap} {ws : List Addr} {rc rs : Nat} {Q : Option Value → OHp → Prop} {H : OHp} {cells slots : Nat} {y : MethodName} {code : ByteArray} {maxL : Nat} {ret : Option FieldType} {pc : Nat} {Ls : Array Slot} {st : List Value}
theorem nf_inst (X : Cx p s m meth c Z y code maxL ret) {y' : MethodName} {n : Nat} (w : (Jvm.Cond.instantiable y'.cls n).before a0 Z = true) : NotFace s y' := fun r0 hn => by
  obtain ⟨c2, k2, i1, i2, -, i4, -⟩ := Cond.instantiable_spec (mvT (args := #[]) X.2.2.2.2.2.2.2 w)
  have hc := findClass_of_methodNamed hn
  cases hc.symm.trans i1
  refine ⟨k2, i2, ?_⟩
  cases q : k2.isInterface
  · rfl
  · rw [q] at i4; cases i4
theorem Goes.callP (X : Cx p s m meth c Z y code maxL ret) {index : Nat} {y' : MethodName} {code' : ByteArray} {maxL' : Nat} {ret' : Option FieldType} {rm : Room} {argsL : List Value} {a : Addr} {C : String} {F G : OHp} {Q' : Option Value → OHp → Prop} (W : Nat) (i : Nat) (ix rx : List Nat) {fs : List OFld} (hi : H[i]? = some (a, ob C fs)) (D : Does l Z a0 h0 y' code' maxL' ret' rm (.ref a :: argsL).toArray F Q') (w1 : (Jvm.Cond.methodLink y.cls index y').before a0 Z = true) (w2 : (Jvm.Cond.instanceMethod y').before a0 Z = true) (w5 : (Jvm.Cond.privateMethod y').before a0 Z = true) (nf : NotFace s y') (w3 : (Jvm.Cond.initialized y'.cls).before a0 Z = true) (w4 : (Jvm.Cond.code y' code' maxL' ret').before a0 Z = true) {ps : List FieldType} {r : Option FieldType} (hpd : parseMethodDescriptor y'.desc = some ⟨ps, r⟩) (hlen : argsL.length = ps.length) {stk : List Value} (hstk : stk = argsL.reverse ++ .ref a :: st) (hsize : Ls.size = maxL) (hF : ix.map (fun i => H[i]?) = F.map some) (hG : rx.map (fun i => H[i]?) = G.map some) (k : ∀ v F', Q' v F' → Goes p l e R s m args below meth c Z a0 h0 hS ws rc rs Q (F' ++ G) (cells + rm.cells) (slots + rm.slots) (mkF m (pc + 3) Ls (v.toList ++ st))) (hy : y'.cls ≠ "java/lang/invoke/MethodHandle" ∧ y'.cls ≠ "java/lang/invoke/VarHandle" := by decide) (hN : (ix ++ rx).Nodup := by decide) (hd : oAt code pc (.invokevirtual index, 3) = true := by decide +kernel) (hfr : rm.frames + 1 ≤ R.frames := by decide) (hW : (st.map fun v => v.category).sum = W := by rfl) (hlo : W + (maxL' + 11) + rm.locals ≤ R.locals := by decide) (hce : cells + rm.cells ≤ R.cells := by decide) (hsl : slots + rm.slots ≤ R.slots := by decide) : Goes p l e R s m args below meth c Z a0 h0 hS ws rc rs Q H cells slots (mkF m pc Ls stk) := fun T locs Y N A => by
  subst hstk hW
  have NN := List.nodup_append.mp hN
  have hZ := X.2.2.2.2.2.2.2
  obtain ⟨cell, hcell, hobj⟩ := (A.at hi : OKo Z a0 T.heap a C fs).1.cell
  obtain ⟨mk, methM, hnamed, hmethM, hstM, habM⟩ := Cond.instanceMethod_spec (mvT (args := args) hZ w2)
  obtain ⟨methM', cM, hmethM', -, -, -, -, -, -, hsigM⟩ := Cond.code_spec hnamed (mvT (args := args) hZ w4)
  cases hmethM.symm.trans hmethM'
  obtain ⟨kP, hkP, hkPi⟩ := nf mk hnamed
  have hpriv : s.PrivateAt y' := Cond.privateMethod_at (mvP hZ w5 (args := #[]))
  have hselP : selectMethod e.platform s.vm cell.cls mk = .method mk := selectMethod_private hmethM (hpriv mk methM hnamed hmethM)
  obtain ⟨vm₁, X₁, hstep₁⟩ := Y.invokevirtual X.1 X.2.2.2.1 (mvT (args := args) hZ w1) hnamed hmethM hstM hkP hkPi hy (a := a) (cell := cell) hcell hobj hselP hmethM habM hkP hkPi (g := mkF m pc Ls (argsL.reverse ++ .ref a :: st)) rfl (argsL := argsL) (rest := st) (lenOf hpd hlen _ hsigM) rfl (hb X.2.1 (oAt.dec hd))
  obtain ⟨v, ⟨T', L', k', n'⟩, Y', ⟨Lc, ⟨N', F', hQ', B⟩, l', k'', n''⟩, st'⟩ := (backOf (args := args) (W := (st.map fun v => v.category).sum) (Q := fun v h' L => Fr h0.size L ∧ ∃ F', Q' v F' ∧ Hp Z a0 h0 T.heap (F.map (·.1)) h' F') (D [] T.heap ((A.sub ix hF NN.1).enter)) hZ w4 w3 hfr hlo) m meth c ⟨T.setVm vm₁, locs, cells, slots⟩ (mkF m pc Ls st) (.invokevirtual index) mk (.ref a :: argsL).toArray X₁ rfl (hsize.trans X.2.2.1.symm) (hb X.2.1 (oAt.dec hd)) (by show 2 * 0 + (st.map fun v => v.category).sum ≤ _; omega) (X₁.named hnamed) ⟨rfl, rfl, hce, hsl⟩
  dsimp only [Pt.U, Pt.locs, Pt.cells, Pt.slots] at Y' l' k'' n'' st' B
  subst l' k'' n''
  exact (k v F' hQ' T' _ Y' (N.app N') (A.back hF hG hN B)).via fun t q => (hstep₁ _ fun acts => by rw [doInvoke_state]; exact Steps.refl _).trans (st'.trans q)
theorem Goes.callI (X : Cx p s m meth c Z y code maxL ret) {index count : Nat} {xi z' : MethodName} {code' : ByteArray} {maxL' : Nat} {ret' : Option FieldType} {rm : Room} {argsL : List Value} {a : Addr} {C : String} {F G : OHp} {Q' : Option Value → OHp → Prop} (W : Nat) (i : Nat) (ix rx : List Nat) {fs : List OFld} (hi : H[i]? = some (a, ob C fs)) (D : Does l Z a0 h0 z' code' maxL' ret' rm (.ref a :: argsL).toArray F Q') (w1 : (Jvm.Cond.methodLink y.cls index xi).before a0 Z = true) (w2 : (Jvm.Cond.declares xi).before a0 Z = true) (w5 : (Jvm.Cond.interfaceMethod xi.cls xi.cls xi.name xi.desc).before a0 Z = true) (w6 : (Jvm.Cond.selects C xi z').before a0 Z = true) (w7 : (Jvm.Cond.instanceMethod z').before a0 Z = true) (w8 : (Jvm.Cond.publicMethod z').before a0 Z = true) (w9 : (Jvm.Cond.unhidden C xi.name xi.desc).before a0 Z = true) (w10 : (Jvm.Cond.castable C xi.cls).before a0 Z = true) (w3 : (Jvm.Cond.initialized z'.cls).before a0 Z = true) (w4 : (Jvm.Cond.code z' code' maxL' ret').before a0 Z = true) {ps : List FieldType} {r : Option FieldType} (hpd : parseMethodDescriptor xi.desc = some ⟨ps, r⟩) (hlen : argsL.length = ps.length) {stk : List Value} (hstk : stk = argsL.reverse ++ .ref a :: st) (hsize : Ls.size = maxL) (hF : ix.map (fun i => H[i]?) = F.map some) (hG : rx.map (fun i => H[i]?) = G.map some) (k : ∀ v F', Q' v F' → Goes p l e R s m args below meth c Z a0 h0 hS ws rc rs Q (F' ++ G) (cells + rm.cells) (slots + rm.slots) (mkF m (pc + 5) Ls (v.toList ++ st))) (hy : xi.cls ≠ "java/lang/invoke/MethodHandle" ∧ xi.cls ≠ "java/lang/invoke/VarHandle" := by decide) (hN : (ix ++ rx).Nodup := by decide) (hfc : ((Jvm.Cond.interfaceMethod xi.cls xi.cls xi.name xi.desc).onTables && (Jvm.Cond.interfaceMethod xi.cls xi.cls xi.name xi.desc).keepsFace) = true := by rfl) (hd : oAt code pc (.invokeinterface index count, 5) = true := by decide +kernel) (hfr : rm.frames + 1 ≤ R.frames := by decide) (hW : (st.map fun v => v.category).sum = W := by rfl) (hlo : W + (maxL' + 11) + rm.locals ≤ R.locals := by decide) (hce : cells + rm.cells ≤ R.cells := by decide) (hsl : slots + rm.slots ≤ R.slots := by decide) : Goes p l e R s m args below meth c Z a0 h0 hS ws rc rs Q H cells slots (mkF m pc Ls stk) := fun T locs Y N A => by
  subst hstk hW
  have NN := List.nodup_append.mp hN
  have hZ := X.2.2.2.2.2.2.2
  obtain ⟨cq, kq, qa, qb, qc⟩ := isOf (T := T) hZ rfl (A.at hi).1
  obtain ⟨v, vm1, ⟨T', L', k', n'⟩, -, Y', ⟨Lc, ⟨N', F', hQ', B⟩, l', k'', n''⟩, st'⟩ := Y.interfaceBack X.1 (xi := xi) (y := z') X.2.2.2.1 (mvT hZ w1) (mvT hZ w2) (mvT hZ w5 hfc) (mvT hZ w6) (mvT hZ w7) (mvT hZ w8) (mvT hZ w9) (mvT hZ w10) hy
    (backOf (W := (st.map fun v => v.category).sum) (Q := fun v h' L => Fr h0.size L ∧ ∃ F', Q' v F' ∧ Hp Z a0 h0 T.heap (F.map (·.1)) h' F') (D [] T.heap ((A.sub ix hF NN.1).enter)) hZ w4 w3 hfr hlo) qa qb qc (g := mkF m pc Ls (argsL.reverse ++ .ref a :: st)) rfl (hsize.trans X.2.2.1.symm) (Steps.refl _) (argsL := argsL) (rest := st) (lenOf hpd hlen) rfl (by show 2 * 0 + _ ≤ _; omega) (hb X.2.1 (oAt.dec hd)) (fun _ _ => ⟨rfl, rfl, hce, hsl⟩)
  dsimp only [Pt.U, Pt.locs, Pt.cells, Pt.slots] at Y' l' k'' n'' st' B
  subst l' k'' n''
  exact (k v F' hQ' T' _ Y' (N.app N') (A.back hF hG hN B)).via fun t q => st'.trans q
theorem Goes.callSN (X : Cx p s m meth c Z y code maxL ret) {index : Nat} {host : String} {y' : MethodName} {code' : ByteArray} {maxL' : Nat} {ret' : Option FieldType} {rm : Room} {argsL : List Value} {F G : OHp} {Q' : Option Value → OHp → Prop} (W : Nat) (ix rx : List Nat) (D : Does l Z a0 h0 y' code' maxL' ret' rm argsL.toArray F Q') (w1 : (Jvm.Cond.methodLinkNest y.cls index y' host).before a0 Z = true) (w2 : (Jvm.Cond.static y').before a0 Z = true) (w3 : (Jvm.Cond.initialized y'.cls).before a0 Z = true) (w4 : (Jvm.Cond.code y' code' maxL' ret').before a0 Z = true) {ps : List FieldType} {r : Option FieldType} (hpd : parseMethodDescriptor y'.desc = some ⟨ps, r⟩) (hlen : argsL.length = ps.length) {stk : List Value} (hstk : stk = argsL.reverse ++ st) (hsize : Ls.size = maxL) (hF : ix.map (fun i => H[i]?) = F.map some) (hG : rx.map (fun i => H[i]?) = G.map some) (k : ∀ v F', Q' v F' → Goes p l e R s m args below meth c Z a0 h0 hS ws rc rs Q (F' ++ G) (cells + rm.cells) (slots + rm.slots) (mkF m (pc + 3) Ls (v.toList ++ st))) (hy : y'.cls ≠ "java/lang/invoke/MethodHandle" ∧ y'.cls ≠ "java/lang/invoke/VarHandle" := by decide) (hN : (ix ++ rx).Nodup := by decide) (hd : oAt code pc (.invokestatic index, 3) = true := by decide +kernel) (hfr : rm.frames + 1 ≤ R.frames := by decide) (hW : (st.map fun v => v.category).sum = W := by rfl) (hlo : W + (maxL' + 11) + rm.locals ≤ R.locals := by decide) (hce : cells + rm.cells ≤ R.cells := by decide) (hsl : slots + rm.slots ≤ R.slots := by decide) : Goes p l e R s m args below meth c Z a0 h0 hS ws rc rs Q H cells slots (mkF m pc Ls stk) := fun T locs Y N A => by
  subst hstk hW
  have NN := List.nodup_append.mp hN
  have hZ := X.2.2.2.2.2.2.2
  obtain ⟨v, vm1, ⟨T', L', k', n'⟩, -, Y', ⟨Lc, ⟨N', F', hQ', B⟩, l', k'', n''⟩, st'⟩ := RoadKit.callSN Y X.1 (y := y') X.2.2.2.1 (Cond.methodLinkNest_wide hZ w1 :) (mvT hZ w2) (mvT hZ w3) (mvT hZ w4) hy
    (backOf (W := (st.map fun v => v.category).sum) (Q := fun v h' L => Fr h0.size L ∧ ∃ F', Q' v F' ∧ Hp Z a0 h0 T.heap (F.map (·.1)) h' F') (D [] T.heap ((A.sub ix hF NN.1).enter)) hZ w4 w3 hfr hlo) (g := mkF m pc Ls (argsL.reverse ++ st)) rfl (hsize.trans X.2.2.1.symm) (argsL := argsL) (rest := st) (lenOf hpd hlen) rfl (by show 2 * 0 + _ ≤ _; omega) (hb X.2.1 (oAt.dec hd)) (fun _ _ => ⟨rfl, rfl, hce, hsl⟩)
  dsimp only [Pt.U, Pt.locs, Pt.cells, Pt.slots] at Y' l' k'' n'' st' B
  subst l' k'' n''
  exact (k v F' hQ' T' _ Y' (N.app N') (A.back hF hG hN B)).via fun t q => st'.trans q
end Calls
section More
variable {p : Program} {l : Launch} {e : Env} {R : Room} {s : State} {m : MethodId} {args : Array Value} {below : List Frame} {meth : Method} {c : Code} {Z : State} {a0 : Array Value} {h0 hS : Heap} {ws : List Addr} {rc rs : Nat} {Q : Option Value → OHp → Prop} {H : OHp} {cells slots : Nat} {y : MethodName} {code : ByteArray} {maxL : Nat} {ret : Option FieldType} {pc : Nat} {Ls : Array Slot} {st : List Value}
theorem Goes.ldcJ (X : Cx p s m meth c Z y code maxL ret) {index : Nat} {v : Int64} (w : (Jvm.Cond.constantLong y.cls index v).before a0 Z = true) (k : Goes p l e R s m args below meth c Z a0 h0 hS ws rc rs Q H cells slots (mkF m (pc + 3) Ls (.long v :: st))) (hd : oAt code pc (.ldc2_w index, 3) = true := by decide +kernel) : Goes p l e R s m args below meth c Z a0 h0 hS ws rc rs Q H cells slots (mkF m pc Ls st) := fun T locs Y N A =>
  (k T locs Y N A).via fun t r => Y.ldc2J X.1 X.2.2.2.1 (mvT X.2.2.2.2.2.2.2 w) rfl (hb X.2.1 (oAt.dec hd)) r
/-- 'b ? 1 : 0' as javac writes it -/
theorem Goes.bool1 (X : Cx p s m meth c Z y code maxL ret) {cd : ClassFile.Cond} {o o2 : Int} {pc' pc2 : Nat} {x : Int32} (h1 : oAt code (pc + 3) (.iconst 1, 1) = true) (h2 : oAt code (pc + 4) (.goto o2, 3) = true) (h3 : oAt code pc' (.iconst 0, 1) = true) (h4 : pc' + 1 = pc2) (k : ∀ b : Int32, b = (if ifCond.holds cd x = true then 0 else 1) → Goes p l e R s m args below meth c Z a0 h0 hS ws rc rs Q H cells slots (mkF m pc2 Ls (.int b :: st))) (hd : oAt code pc (.ifCond cd o, 3) = true := by decide +kernel) (ho : 0 ≤ (pc : Int) + o := by decide) (hp : ((pc : Int) + o).toNat = pc' := by decide) (ho2 : 0 ≤ ((pc + 4 : Nat) : Int) + o2 := by decide) (hp2 : (((pc + 4 : Nat) : Int) + o2).toNat = pc2 := by decide) : Goes p l e R s m args below meth c Z a0 h0 hS ws rc rs Q H cells slots (mkF m pc Ls (.int x :: st)) := by
  subst h4
  refine Goes.if1 X (fun q => ?_) (fun q => ?_) hd ho hp
  · exact Goes.run X [(.iconst 0, 1)] rfl (k 0 (by rw [if_pos q])) (by simp [oBlk, h3]) rfl
  · exact Goes.run X [(.iconst 1, 1)] rfl (Goes.goto X (k 1 (by rw [if_neg (by rw [q]; simp)])) h2 ho2 hp2) (by simp [oBlk, h1]) rfl
end More
section Up
variable {p : Program} {l : Launch} {e : Env} {R : Room} {s : State} {m : MethodId} {args : Array Value} {below : List Frame} {meth : Method} {c : Code} {Z : State} {a0 : Array Value} {h0 hS : Heap} {ws : List Addr} {rc rs : Nat} {Q : Option Value → OHp → Prop} {H : OHp} {cells slots : Nat} {y : MethodName} {code : ByteArray} {maxL : Nat} {ret : Option FieldType} {pc : Nat} {Ls : Array Slot} {st : List Value}
theorem Goes.tsw (X : Cx p s m meth c Z y code maxL ret) {dflt low high : Int} {offs : Array Int} {len pc' : Nat} {o : Int} {i : Int32} (hin : ¬ (i.toInt < low ∨ i.toInt > high)) (hoff : offs[(i.toInt - low).toNat]? = some o) (k : Goes p l e R s m args below meth c Z a0 h0 hS ws rc rs Q H cells slots (mkF m pc' Ls st)) (hd : oAt code pc (.tableswitch dflt low high offs, len) = true := by decide +kernel) (ho : 0 ≤ (pc : Int) + o := by decide) (hp : ((pc : Int) + o).toNat = pc' := by decide) : Goes p l e R s m args below meth c Z a0 h0 hS ws rc rs Q H cells slots (mkF m pc Ls (.int i :: st)) := fun T locs Y N A =>
  (k T locs Y N A).via fun t r => XS.tswIn Y.here X.1 rfl (pc0 := pc) rfl (hb X.2.1 (oAt.dec hd)) rfl hin hoff ho hp r
/-- super.m(..) -/
theorem Goes.callU (X : Cx p s m meth c Z y code maxL ret) {index : Nat} {y' : MethodName} {code' : ByteArray} {maxL' : Nat} {ret' : Option FieldType} {rm : Room} {argsL : List Value} {a : Addr} {C : String} {F G : OHp} {Q' : Option Value → OHp → Prop} (W : Nat) (i : Nat) (ix rx : List Nat) {fs : List OFld} (hi : H[i]? = some (a, ob C fs)) (D : Does l Z a0 h0 y' code' maxL' ret' rm (.ref a :: argsL).toArray F Q') (w1 : (Jvm.Cond.methodLink y.cls index y').before a0 Z = true) (w2 : (Jvm.Cond.instanceMethod y').before a0 Z = true) (w5 : (Jvm.Cond.superclass y.cls y'.cls).before a0 Z = true) (w6 : (Jvm.Cond.sameMethod y'.cls y'.cls y'.name y'.desc).before a0 Z = true) (hn : y'.name ≠ "<init>") (w3 : (Jvm.Cond.initialized y'.cls).before a0 Z = true) (w4 : (Jvm.Cond.code y' code' maxL' ret').before a0 Z = true) {ps : List FieldType} {r : Option FieldType} (hpd : parseMethodDescriptor y'.desc = some ⟨ps, r⟩) (hlen : argsL.length = ps.length) {stk : List Value} (hstk : stk = argsL.reverse ++ .ref a :: st) (hsize : Ls.size = maxL) (hF : ix.map (fun i => H[i]?) = F.map some) (hG : rx.map (fun i => H[i]?) = G.map some) (k : ∀ v F', Q' v F' → Goes p l e R s m args below meth c Z a0 h0 hS ws rc rs Q (F' ++ G) (cells + rm.cells) (slots + rm.slots) (mkF m (pc + 3) Ls (v.toList ++ st))) (hN : (ix ++ rx).Nodup := by decide) (hd : oAt code pc (.invokespecial index, 3) = true := by decide +kernel) (hfr : rm.frames + 1 ≤ R.frames := by decide) (hW : (st.map fun v => v.category).sum = W := by rfl) (hlo : W + (maxL' + 11) + rm.locals ≤ R.locals := by decide) (hce : cells + rm.cells ≤ R.cells := by decide) (hsl : slots + rm.slots ≤ R.slots := by decide) : Goes p l e R s m args below meth c Z a0 h0 hS ws rc rs Q H cells slots (mkF m pc Ls stk) := fun T locs Y N A => by
  subst hstk hW
  have NN := List.nodup_append.mp hN
  have hZ := X.2.2.2.2.2.2.2
  obtain ⟨v, vm1, ⟨T', L', k', n'⟩, -, Y', ⟨Lc, ⟨N', F', hQ', B⟩, l', k'', n''⟩, st'⟩ := superBack Y X.1 hZ (y := y') X.2.2.2.1 w1 w6 w2 w5 hn
    (backOf (W := (st.map fun v => v.category).sum) (Q := fun v h' L => Fr h0.size L ∧ ∃ F', Q' v F' ∧ Hp Z a0 h0 T.heap (F.map (·.1)) h' F') (D [] T.heap ((A.sub ix hF NN.1).enter)) hZ w4 w3 hfr hlo) rfl (Ins.self (A.at hi : OKo Z a0 T.heap a C fs).1) (g := mkF m pc Ls (argsL.reverse ++ .ref a :: st)) rfl (hsize.trans X.2.2.1.symm) w4 (argsL := argsL) (rest := st) (lenOf hpd hlen) rfl (by show 2 * 0 + _ ≤ _; omega) (hb X.2.1 (oAt.dec hd)) (fun _ _ => ⟨rfl, rfl, hce, hsl⟩)
  dsimp only [Pt.U, Pt.locs, Pt.cells, Pt.slots] at Y' l' k'' n'' st' B
  subst l' k'' n''
  exact (k v F' hQ' T' _ Y' (N.app N') (A.back hF hG hN B)).via fun t q => st'.trans q
/-- one that some 'selects' word shows to be no interface finds its own method -/
theorem own_same {C : String} {y1 z1 y' : MethodName} (w1 : (Jvm.Cond.selects C z1 y1).before a0 Z = true) (hc : y1.cls = y'.cls) (w2 : (Jvm.Cond.instanceMethod y').before a0 Z = true) (hx : y'.cls ≠ "java/lang/invoke/MethodHandle" ∧ y'.cls ≠ "java/lang/invoke/VarHandle") : (Jvm.Cond.sameMethod y'.cls y'.cls y'.name y'.desc).before a0 Z = true := by
  obtain ⟨c1, r1, m1, -, -, q3, -, kP, hkP, hkPi⟩ := Cond.selects_spec w1
  obtain ⟨mk, methM, hnamed, hmethM, hstM, habM⟩ := Cond.instanceMethod_spec w2
  have e1 := findClass_of_methodNamed q3
  have e2 := findClass_of_methodNamed hnamed
  rw [hc] at e1
  have e3 : m1.cls = mk.cls := Option.some.inj (e1.symm.trans e2)
  rw [e3] at hkP
  have hf := State.methodFound?_of_named hnamed hx
  have hnamed' : Z.methodNamed? ⟨y'.cls, y'.name, y'.desc⟩ = some mk := hnamed
  simp [Cond.before, Cond.holds, Cond.value, e2, hkP, hkPi, hf, hnamed']
end Up
abbrev o_Dig (v0 v1 v2 v3 v4 v5 v6 v7 v8 v9 v10 : Value) : OObj := ob "com/example/yuanterm/yuanterm/Decimals$Digits" [("com/example/yuanterm/yuanterm/Decimals$Digits", "state", "I", v0), ("com/example/yuanterm/yuanterm/Decimals$Digits", "ended", "Z", v1), ("com/example/yuanterm/yuanterm/Decimals$Digits", "significant", "J", v2), ("com/example/yuanterm/yuanterm/Decimals$Digits", "places", "J", v3), ("com/example/yuanterm/yuanterm/Decimals$Digits", "negativeExponent", "Z", v4), ("com/example/yuanterm/yuanterm/Decimals$Digits", "exponentDigits", "I", v5), ("com/example/yuanterm/yuanterm/Decimals$Digits", "exponent", "J", v6), ("com/example/yuanterm/yuanterm/Decimals$Digits", "unscaled", "Ljava/lang/StringBuilder;", v7), ("com/example/yuanterm/yuanterm/Decimals$Digits", "head", "Ljava/lang/StringBuilder;", v8), ("com/example/yuanterm/yuanterm/Decimals$Digits", "headState", "I", v9), ("com/example/yuanterm/yuanterm/Decimals$Digits", "kept", "I", v10)]
theorem nd_Dig : (["state", "ended", "significant", "places", "negativeExponent", "exponentDigits", "exponent", "unscaled", "head", "headState", "kept"] : List String).Nodup := by decide +kernel
theorem new_Dig {Z : State} {a0 : Array Value} (hw : ∀ d ∈ tables_1, d.before a0 Z = true) : ∀ f ∈ ([("com/example/yuanterm/yuanterm/Decimals$Digits", "state", "I", .int 0), ("com/example/yuanterm/yuanterm/Decimals$Digits", "ended", "Z", .int 0), ("com/example/yuanterm/yuanterm/Decimals$Digits", "significant", "J", .long 0), ("com/example/yuanterm/yuanterm/Decimals$Digits", "places", "J", .long 0), ("com/example/yuanterm/yuanterm/Decimals$Digits", "negativeExponent", "Z", .int 0), ("com/example/yuanterm/yuanterm/Decimals$Digits", "exponentDigits", "I", .int 0), ("com/example/yuanterm/yuanterm/Decimals$Digits", "exponent", "J", .long 0), ("com/example/yuanterm/yuanterm/Decimals$Digits", "unscaled", "Ljava/lang/StringBuilder;", .null), ("com/example/yuanterm/yuanterm/Decimals$Digits", "head", "Ljava/lang/StringBuilder;", .null), ("com/example/yuanterm/yuanterm/Decimals$Digits", "headState", "I", .int 0), ("com/example/yuanterm/yuanterm/Decimals$Digits", "kept", "I", .int 0)] : List OFld), Laid Z a0 "com/example/yuanterm/yuanterm/Decimals$Digits" f.1 f.2.1 f.2.2.1 ∧ ∃ t, parseFieldDescriptor f.2.2.1 = some t ∧ f.2.2.2 = defaultValue t := List.forall_mem_cons.mpr ⟨⟨Or.inl (wd hw 17 rfl), .int, by decide +kernel, rfl⟩, List.forall_mem_cons.mpr ⟨⟨Or.inl (wd hw 52 rfl), .boolean, by decide +kernel, rfl⟩, List.forall_mem_cons.mpr ⟨⟨Or.inl (wd hw 94 rfl), .long, by decide +kernel, rfl⟩, List.forall_mem_cons.mpr ⟨⟨Or.inl (wd hw 129 rfl), .long, by decide +kernel, rfl⟩, List.forall_mem_cons.mpr ⟨⟨Or.inl (wd hw 122 rfl), .boolean, by decide +kernel, rfl⟩, List.forall_mem_cons.mpr ⟨⟨Or.inl (wd hw 124 rfl), .int, by decide +kernel, rfl⟩, List.forall_mem_cons.mpr ⟨⟨Or.inl (wd hw 127 rfl), .long, by decide +kernel, rfl⟩, List.forall_mem_cons.mpr ⟨⟨Or.inr (wd hw 39 rfl), (.object "java/lang/StringBuilder"), by decide +kernel, rfl⟩, List.forall_mem_cons.mpr ⟨⟨Or.inr (wd hw 41 rfl), (.object "java/lang/StringBuilder"), by decide +kernel, rfl⟩, List.forall_mem_cons.mpr ⟨⟨Or.inl (wd hw 43 rfl), .int, by decide +kernel, rfl⟩, List.forall_mem_cons.mpr ⟨⟨Or.inr (wd hw 45 rfl), .int, by decide +kernel, rfl⟩, fun _ q => nomatch q⟩⟩⟩⟩⟩⟩⟩⟩⟩⟩⟩
abbrev o_SB (v0 v1 v2 : Value) : OObj := ob "java/lang/StringBuilder" [("java/lang/AbstractStringBuilder", "value", "[B", v0), ("java/lang/AbstractStringBuilder", "coder", "B", v1), ("java/lang/AbstractStringBuilder", "count", "I", v2)]
theorem nd_SB : (["value", "coder", "count"] : List String).Nodup := by decide +kernel
theorem new_SB {Z : State} {a0 : Array Value} (hw : ∀ d ∈ tables_1, d.before a0 Z = true) : ∀ f ∈ ([("java/lang/AbstractStringBuilder", "value", "[B", .null), ("java/lang/AbstractStringBuilder", "coder", "B", .int 0), ("java/lang/AbstractStringBuilder", "count", "I", .int 0)] : List OFld), Laid Z a0 "java/lang/StringBuilder" f.1 f.2.1 f.2.2.1 ∧ ∃ t, parseFieldDescriptor f.2.2.1 = some t ∧ f.2.2.2 = defaultValue t := List.forall_mem_cons.mpr ⟨⟨Or.inl (wd hw 35 rfl), (.array .byte), by decide +kernel, rfl⟩, List.forall_mem_cons.mpr ⟨⟨Or.inl (wd hw 37 rfl), .byte, by decide +kernel, rfl⟩, List.forall_mem_cons.mpr ⟨⟨Or.inl (wd hw 76 rfl), .int, by decide +kernel, rfl⟩, fun _ q => nomatch q⟩⟩⟩
abbrev y_0 : MethodName := ⟨"com/example/yuanterm/yuanterm/DigitsIsDecimalPinLaw", "pick", "(IJI)C"⟩
theorem pd_y_0 : parseMethodDescriptor y_0.desc = some ⟨[.int, .long, .int], some .char⟩ := by decide +kernel
abbrev y_1 : MethodName := ⟨"com/example/yuanterm/yuanterm/Decimals$Digits", "<init>", "(I)V"⟩
theorem pd_y_1 : parseMethodDescriptor y_1.desc = some ⟨[.int], none⟩ := by decide +kernel
abbrev y_2 : MethodName := ⟨"java/lang/StringBuilder", "<init>", "()V"⟩
theorem pd_y_2 : parseMethodDescriptor y_2.desc = some ⟨[], none⟩ := by decide +kernel
abbrev y_3 : MethodName := ⟨"java/lang/AbstractStringBuilder", "<init>", "(I)V"⟩
theorem pd_y_3 : parseMethodDescriptor y_3.desc = some ⟨[.int], none⟩ := by decide +kernel
abbrev y_4 : MethodName := ⟨"com/example/yuanterm/yuanterm/Decimals$Digits", "isDecimal", "()Z"⟩
theorem pd_y_4 : parseMethodDescriptor y_4.desc = some ⟨[], some .boolean⟩ := by decide +kernel
abbrev y_5 : MethodName := ⟨"com/example/yuanterm/yuanterm/DigitsIsDecimalPinLaw", "reference", "([CI)Z"⟩
theorem pd_y_5 : parseMethodDescriptor y_5.desc = some ⟨[(.array .char), .int], some .boolean⟩ := by decide +kernel
abbrev y_6 : MethodName := ⟨"com/example/yuanterm/yuanterm/Decimals$Digits", "add", "(C)Z"⟩
theorem pd_y_6 : parseMethodDescriptor y_6.desc = some ⟨[.char], some .boolean⟩ := by decide +kernel
abbrev y_7 : MethodName := ⟨"com/example/yuanterm/yuanterm/Decimals", "isDigit", "(C)Z"⟩
theorem pd_y_7 : parseMethodDescriptor y_7.desc = some ⟨[.char], some .boolean⟩ := by decide +kernel
abbrev y_8 : MethodName := ⟨"java/lang/StringBuilder", "length", "()I"⟩
theorem pd_y_8 : parseMethodDescriptor y_8.desc = some ⟨[], some .int⟩ := by decide +kernel
abbrev y_9 : MethodName := ⟨"java/lang/AbstractStringBuilder", "length", "()I"⟩
theorem pd_y_9 : parseMethodDescriptor y_9.desc = some ⟨[], some .int⟩ := by decide +kernel
abbrev y_10 : MethodName := ⟨"com/example/yuanterm/yuanterm/DigitsIsDecimalPinLaw", "count", "([CIII)I"⟩
theorem pd_y_10 : parseMethodDescriptor y_10.desc = some ⟨[(.array .char), .int, .int, .int], some .int⟩ := by decide +kernel
abbrev y_11 : MethodName := ⟨"com/example/yuanterm/yuanterm/DigitsIsDecimalPinLaw", "at", "([CIIII)I"⟩
theorem pd_y_11 : parseMethodDescriptor y_11.desc = some ⟨[(.array .char), .int, .int, .int, .int], some .int⟩ := by decide +kernel
abbrev y_12 : MethodName := ⟨"com/example/yuanterm/yuanterm/DigitsIsDecimalPinLaw", "kind", "(CI)Z"⟩
theorem pd_y_12 : parseMethodDescriptor y_12.desc = some ⟨[.char, .int], some .boolean⟩ := by decide +kernel
abbrev y_13 : MethodName := ⟨"com/example/yuanterm/yuanterm/DigitsIsDecimalPinLaw", "digit", "(C)Z"⟩
theorem pd_y_13 : parseMethodDescriptor y_13.desc = some ⟨[.char], some .boolean⟩ := by decide +kernel
abbrev y_14 : MethodName := ⟨"com/example/yuanterm/yuanterm/Decimals$Digits", "significant", "(C)V"⟩
theorem pd_y_14 : parseMethodDescriptor y_14.desc = some ⟨[.char], none⟩ := by decide +kernel
abbrev y_15 : MethodName := ⟨"java/lang/StringBuilder", "append", "(C)Ljava/lang/StringBuilder;"⟩
theorem pd_y_15 : parseMethodDescriptor y_15.desc = some ⟨[.char], some (.object "java/lang/StringBuilder")⟩ := by decide +kernel
abbrev y_16 : MethodName := ⟨"java/lang/AbstractStringBuilder", "append", "(C)Ljava/lang/AbstractStringBuilder;"⟩
theorem pd_y_16 : parseMethodDescriptor y_16.desc = some ⟨[.char], some (.object "java/lang/AbstractStringBuilder")⟩ := by decide +kernel
abbrev y_17 : MethodName := ⟨"java/lang/AbstractStringBuilder", "ensureCapacityInternal", "(I)V"⟩
theorem pd_y_17 : parseMethodDescriptor y_17.desc = some ⟨[.int], none⟩ := by decide +kernel
abbrev y_18 : MethodName := ⟨"java/lang/AbstractStringBuilder", "isLatin1", "()Z"⟩
theorem pd_y_18 : parseMethodDescriptor y_18.desc = some ⟨[], some .boolean⟩ := by decide +kernel
abbrev y_19 : MethodName := ⟨"java/lang/StringLatin1", "canEncode", "(C)Z"⟩
theorem pd_y_19 : parseMethodDescriptor y_19.desc = some ⟨[.char], some .boolean⟩ := by decide +kernel
abbrev y_20 : MethodName := ⟨"com/example/yuanterm/yuanterm/DigitsIsDecimalPinLaw", "pos", "([CIII)I"⟩
theorem pd_y_20 : parseMethodDescriptor y_20.desc = some ⟨[(.array .char), .int, .int, .int], some .int⟩ := by decide +kernel
abbrev oBs (bs : List Value) : OObj := ar "[B" .byte bs
theorem own_nb (z : Int32) : nar .byte (oI2b z) = oI2b z := by simp [nar, oI2b]
theorem own_cap : ∀ k : Nat, k < 16 → ifCond.holds .le ((Int32.ofNat k + 1) - ((16 : Int32) >>> ((0 : Int32) &&& 31))) = true := by decide
theorem own_k60 : ∀ k : Nat, k < 16 → if_icmp.holds .gt (Int32.ofNat k) 60 = false := by decide
theorem own_kn : ∀ k : Nat, k < 16 → (Int32.ofNat k).toNatClampNeg = k ∧ ¬ (Int32.ofNat k) < 0 ∧ Int32.ofNat k + 1 = Int32.ofNat (k + 1) := by decide
theorem pf_0 : parseFieldDescriptor "[B" = some (.array .byte) := by decide +kernel
theorem pf_1 : parseFieldDescriptor "B" = some .byte := by decide +kernel
set_option maxRecDepth 65536 in
set_option maxHeartbeats 40000000 in
theorem D_asbi (l : Launch) (Z : State) (a0 : Array Value) (h0 : Heap) (hw : ∀ d ∈ tables_1, d.before a0 Z = true) (cs : Int32) (hCS : Sta Z h0 "java/lang/String" "COMPACT_STRINGS" "Z" (.int cs)) (hcs : ¬ cs = 0) (a : Addr) : Does l Z a0 h0 y_3 jdk_68_method_2_code 2 none ({ frames := 1, cells := 1, slots := 16, locals := 12 } : Room) #[.ref a, .int 16] [(a, o_SB .null (.int 0) (.int 0))] (fun v F => ∃ b, v = none ∧ F = [(a, o_SB (.ref b) (.int 0) (.int 0)), (b, oBs (List.replicate 16 (.int 0)))]) := by
  refine Does.mk #[.val (.ref a), .val (.int 16)] (plainFor_of_name (by decide +kernel)) (fun m => by first | (simp [entryFrame, mkF, argsToLocals, Value.category]; done) | rfl) ?_
  intro p e s m args below meth c h X
  show Goes _ _ _ _ _ _ _ _ _ _ _ _ _ _ _ _ _ _ [(a, o_SB .null (.int 0) (.int 0))] 0 0 (mkF m 0 #[.val (.ref a), .val (.int 16)] [])
  refine Goes.runS X [(.aload_n 0, 1)] (S' := [.ref a]) (pc' := 1) rfl ?_
  refine Goes.initO X 0 (wd hw 30 rfl) (wd hw 14 rfl) (wd hw 15 rfl) rfl ?_
  refine Goes.getS X (wd hw 31 rfl) Via.refl hCS ?_
  refine Goes.if1 X (pc' := 25) (o := 18) (cd := .eq) (fun q => absurd (q.symm.trans (by simpa [ifCond.holds] using hcs : ifCond.holds .eq cs = false)) (by decide)) (fun _ => ?_)
  refine Goes.runS X [(.aload_n 0, 1), (.iload_n 1, 1)] (S' := [.int 16, .ref a]) (pc' := 12) rfl ?_
  refine Goes.newarr X (aty := .byte) "[B" 16 16 (wd hw 33 rfl) (by decide +kernel) (by decide) (by decide) (fun b1 => ?_)
  show Goes _ _ _ _ _ _ _ _ _ _ _ _ _ _ _ _ _ _ [(a, o_SB .null (.int 0) (.int 0)), (b1, oBs (List.replicate 16 (.int 0)))] 1 16 (mkF m 14 #[.val (.ref a), .val (.int 16)] [.ref b1, .ref a])
  refine Goes.putF X 0 0 rfl rfl (wd hw 34 rfl) Via.refl (Or.inl (wd hw 35 rfl)) (wd hw 19 rfl) (own_hn rfl rfl nd_SB) (ty := (.array .byte)) pf_0 rfl rfl ?_
  refine Goes.runS X [(.aload_n 0, 1), (.iconst 0, 1)] (S' := [.int (0 : Int32), .ref a]) (pc' := 19) rfl ?_
  refine Goes.putF X 0 1 rfl rfl (wd hw 36 rfl) Via.refl (Or.inl (wd hw 37 rfl)) (wd hw 19 rfl) (own_hn rfl rfl nd_SB) (ty := .byte) pf_1 rfl rfl ?_
  refine Goes.goto X (o := 16) (pc' := 38) ?_
  refine Goes.retV X ?_
  exact ⟨b1, rfl, rfl⟩
set_option maxRecDepth 65536 in
set_option maxHeartbeats 40000000 in
theorem D_sbi (l : Launch) (Z : State) (a0 : Array Value) (h0 : Heap) (hw : ∀ d ∈ tables_1, d.before a0 Z = true) (cs : Int32) (hCS : Sta Z h0 "java/lang/String" "COMPACT_STRINGS" "Z" (.int cs)) (hcs : ¬ cs = 0) (a : Addr) : Does l Z a0 h0 y_2 jdk_67_method_1_code 1 none ({ frames := 2, cells := 1, slots := 16, locals := 25 } : Room) #[.ref a] [(a, o_SB .null (.int 0) (.int 0))] (fun v F => ∃ b, v = none ∧ F = [(a, o_SB (.ref b) (.int 0) (.int 0)), (b, oBs (List.replicate 16 (.int 0)))]) := by
  refine Does.mk #[.val (.ref a)] (plainFor_of_name (by decide +kernel)) (fun m => by first | (simp [entryFrame, mkF, argsToLocals, Value.category]; done) | rfl) ?_
  intro p e s m args below meth c h X
  show Goes _ _ _ _ _ _ _ _ _ _ _ _ _ _ _ _ _ _ [(a, o_SB .null (.int 0) (.int 0))] 0 0 (mkF m 0 #[.val (.ref a)] [])
  refine Goes.runS X [(.aload_n 0, 1), (.bipush 16, 2)] (S' := [.int (16 : Int32), .ref a]) (pc' := 3) rfl ?_
  refine Goes.callN X 0 [0] [] (D_asbi l Z a0 h0 hw cs hCS hcs a) rfl (wd hw 24 rfl) (wd hw 25 rfl) (wd hw 28 rfl) (wd hw 29 rfl) pd_y_3 rfl (st := []) rfl rfl (G := []) rfl rfl ?_
  rintro _ _ ⟨b2, rfl, rfl⟩
  refine Goes.retV X ?_
  exact ⟨b2, rfl, rfl⟩
theorem pf_2 : parseFieldDescriptor "I" = some .int := by decide +kernel
theorem pf_3 : parseFieldDescriptor "Ljava/lang/StringBuilder;" = some (.object "java/lang/StringBuilder") := by decide +kernel
set_option maxRecDepth 65536 in
set_option maxHeartbeats 40000000 in
theorem D_dctor (l : Launch) (Z : State) (a0 : Array Value) (h0 : Heap) (hw : ∀ d ∈ tables_1, d.before a0 Z = true) (cs : Int32) (hCS : Sta Z h0 "java/lang/String" "COMPACT_STRINGS" "Z" (.int cs)) (hcs : ¬ cs = 0) (a : Addr) : Does l Z a0 h0 y_1 prog_28_method_1_code 2 none ({ frames := 3, cells := 4, slots := 40, locals := 39 } : Room) #[.ref a, .int 0] [(a, o_Dig (.int 0) (.int 0) (.long 0) (.long 0) (.int 0) (.int 0) (.long 0) .null .null (.int 0) (.int 0))] (fun v F => ∃ u b h b2, v = none ∧ F = [(a, o_Dig (.int 0) (.int 0) (.long 0) (.long 0) (.int 0) (.int 0) (.long 0) (.ref u) (.ref h) (.int 0) (.int 0)), (u, o_SB (.ref b) (.int 0) (.int 0)), (b, oBs (List.replicate 16 (.int 0))), (h, o_SB (.ref b2) (.int 0) (.int 0))]) := by
  refine Does.mk #[.val (.ref a), .val (.int 0)] (plainFor_of_name (by decide +kernel)) (fun m => by first | (simp [entryFrame, mkF, argsToLocals, Value.category]; done) | rfl) ?_
  intro p e s m args below meth c h X
  show Goes _ _ _ _ _ _ _ _ _ _ _ _ _ _ _ _ _ _ [(a, o_Dig (.int 0) (.int 0) (.long 0) (.long 0) (.int 0) (.int 0) (.long 0) .null .null (.int 0) (.int 0))] 0 0 (mkF m 0 #[.val (.ref a), .val (.int 0)] [])
  refine Goes.runS X [(.aload_n 0, 1)] (S' := [.ref a]) (pc' := 1) rfl ?_
  refine Goes.initO X 0 (wd hw 13 rfl) (wd hw 14 rfl) (wd hw 15 rfl) rfl ?_
  refine Goes.runS X [(.aload_n 0, 1), (.iconst 0, 1)] (S' := [.int (0 : Int32), .ref a]) (pc' := 6) rfl ?_
  refine Goes.putF X 0 0 rfl rfl (wd hw 16 rfl) Via.refl (Or.inl (wd hw 17 rfl)) (wd hw 8 rfl) (own_hn rfl rfl nd_Dig) (ty := .int) pf_2 rfl rfl ?_
  refine Goes.runS X [(.aload_n 0, 1)] (S' := [.ref a]) (pc' := 10) rfl ?_
  refine Goes.new X _ (wd hw 18 rfl) (wd hw 19 rfl) (wd hw 20 rfl) (new_SB hw) (fun a3 => ?_)
  refine Goes.runS X [(.dup, 1)] (S' := [.ref a3, .ref a3, .ref a]) (pc' := 14) rfl ?_
  refine Goes.callN X 2 [1] [0] (D_sbi l Z a0 h0 hw cs hCS hcs a3) rfl (wd hw 21 rfl) (wd hw 22 rfl) (wd hw 20 rfl) (wd hw 23 rfl) pd_y_2 rfl (st := [.ref a3, .ref a]) rfl rfl (G := [(a, o_Dig (.int (0 : Int32)) (.int 0) (.long 0) (.long 0) (.int 0) (.int 0) (.long 0) .null .null (.int 0) (.int 0))]) rfl rfl ?_
  rintro _ _ ⟨b4, rfl, rfl⟩
  refine Goes.putF X 2 7 rfl rfl (wd hw 38 rfl) Via.refl (Or.inr ⟨(wd hw 39 rfl), rfl, rfl⟩) (wd hw 8 rfl) (own_hn rfl rfl nd_Dig) (ty := (.object "java/lang/StringBuilder")) pf_3 rfl rfl ?_
  refine Goes.runS X [(.aload_n 0, 1)] (S' := [.ref a]) (pc' := 21) rfl ?_
  refine Goes.new X _ (wd hw 18 rfl) (wd hw 19 rfl) (wd hw 20 rfl) (new_SB hw) (fun a5 => ?_)
  refine Goes.runS X [(.dup, 1)] (S' := [.ref a5, .ref a5, .ref a]) (pc' := 25) rfl ?_
  refine Goes.callN X 2 [3] [0, 1, 2] (D_sbi l Z a0 h0 hw cs hCS hcs a5) rfl (wd hw 21 rfl) (wd hw 22 rfl) (wd hw 20 rfl) (wd hw 23 rfl) pd_y_2 rfl (st := [.ref a5, .ref a]) rfl rfl (G := [(a3, o_SB (.ref b4) (.int 0) (.int 0)), (b4, oBs (List.replicate 16 (.int 0))), (a, o_Dig (.int (0 : Int32)) (.int 0) (.long 0) (.long 0) (.int 0) (.int 0) (.long 0) (.ref a3) .null (.int 0) (.int 0))]) rfl rfl ?_
  rintro _ _ ⟨b6, rfl, rfl⟩
  refine Goes.putF X 4 8 rfl rfl (wd hw 40 rfl) Via.refl (Or.inr ⟨(wd hw 41 rfl), rfl, rfl⟩) (wd hw 8 rfl) (own_hn rfl rfl nd_Dig) (ty := (.object "java/lang/StringBuilder")) pf_3 rfl rfl ?_
  refine Goes.runS X [(.aload_n 0, 1), (.iconst 0, 1)] (S' := [.int (0 : Int32), .ref a]) (pc' := 33) rfl ?_
  refine Goes.putF X 4 9 rfl rfl (wd hw 42 rfl) Via.refl (Or.inl (wd hw 43 rfl)) (wd hw 8 rfl) (own_hn rfl rfl nd_Dig) (ty := .int) pf_2 rfl rfl ?_
  refine Goes.runS X [(.aload_n 0, 1), (.iload_n 1, 1)] (S' := [.int 0, .ref a]) (pc' := 38) rfl ?_
  refine Goes.putF X 4 10 rfl rfl (wd hw 44 rfl) Via.refl (Or.inr ⟨(wd hw 45 rfl), rfl, rfl⟩) (wd hw 8 rfl) (own_hn rfl rfl nd_Dig) (ty := .int) pf_2 rfl rfl ?_
  refine Goes.sub [4, 2, 3, 0] (G := [(a, o_Dig (.int (0 : Int32)) (.int 0) (.long 0) (.long 0) (.int 0) (.int 0) (.long 0) (.ref a3) (.ref a5) (.int (0 : Int32)) (.int 0)), (a3, o_SB (.ref b4) (.int 0) (.int 0)), (b4, oBs (List.replicate 16 (.int 0))), (a5, o_SB (.ref b6) (.int 0) (.int 0))]) rfl ?_
  refine Goes.retV X ?_
  exact ⟨a3, b4, a5, b6, rfl, rfl⟩
set_option maxRecDepth 65536 in
set_option maxHeartbeats 40000000 in
theorem D_asbl (l : Launch) (Z : State) (a0 : Array Value) (h0 : Heap) (hw : ∀ d ∈ tables_1, d.before a0 Z = true) (a : Addr) (v0 v1 : Value) (n : Int32) : Does l Z a0 h0 y_9 jdk_68_method_6_code 1 (some .int) ({ frames := 0, cells := 0, slots := 0, locals := 0 } : Room) #[.ref a] [(a, o_SB (v0) (v1) (.int n))] (fun v F => v = some (.int n) ∧ F = [(a, o_SB (v0) (v1) (.int n))]) := by
  refine Does.mk #[.val (.ref a)] (plainFor_of_name (by decide +kernel)) (fun m => by first | (simp [entryFrame, mkF, argsToLocals, Value.category]; done) | rfl) ?_
  intro p e s m args below meth c h X
  show Goes _ _ _ _ _ _ _ _ _ _ _ _ _ _ _ _ _ _ [(a, o_SB (v0) (v1) (.int n))] 0 0 (mkF m 0 #[.val (.ref a)] [])
  refine Goes.runS X [(.aload_n 0, 1)] (S' := [.ref a]) (pc' := 1) rfl ?_
  refine Goes.getF X 0 2 rfl rfl (wd hw 75 rfl) Via.refl ?_
  refine Goes.retI X (by simp) rfl ?_
  exact ⟨rfl, rfl⟩
set_option maxRecDepth 65536 in
set_option maxHeartbeats 40000000 in
theorem D_sbl (l : Launch) (Z : State) (a0 : Array Value) (h0 : Heap) (hw : ∀ d ∈ tables_1, d.before a0 Z = true) (a : Addr) (v0 v1 : Value) (n : Int32) : Does l Z a0 h0 y_8 jdk_67_method_93_code 1 (some .int) ({ frames := 1, cells := 0, slots := 0, locals := 12 } : Room) #[.ref a] [(a, o_SB (v0) (v1) (.int n))] (fun v F => v = some (.int n) ∧ F = [(a, o_SB (v0) (v1) (.int n))]) := by
  refine Does.mk #[.val (.ref a)] (plainFor_of_name (by decide +kernel)) (fun m => by first | (simp [entryFrame, mkF, argsToLocals, Value.category]; done) | rfl) ?_
  intro p e s m args below meth c h X
  show Goes _ _ _ _ _ _ _ _ _ _ _ _ _ _ _ _ _ _ [(a, o_SB (v0) (v1) (.int n))] 0 0 (mkF m 0 #[.val (.ref a)] [])
  refine Goes.runS X [(.aload_n 0, 1)] (S' := [.ref a]) (pc' := 1) rfl ?_
  refine Goes.callU X 0 0 [0] [] rfl (D_asbl l Z a0 h0 hw a v0 v1 n) (wd hw 70 rfl) (wd hw 71 rfl) (wd hw 72 rfl) (own_same (wd hw 107 rfl) rfl (wd hw 71 rfl) (by decide)) (by decide) (wd hw 28 rfl) (wd hw 74 rfl) pd_y_9 rfl (st := []) rfl rfl (G := []) rfl rfl ?_
  rintro _ _ ⟨rfl, rfl⟩
  refine Goes.retI X (by simp) rfl ?_
  exact ⟨rfl, rfl⟩
set_option maxRecDepth 65536 in
set_option maxHeartbeats 40000000 in
theorem D_ens (l : Launch) (Z : State) (a0 : Array Value) (h0 : Heap) (hw : ∀ d ∈ tables_1, d.before a0 Z = true) (a b : Addr) (k : Nat) (hk : k < 16) (bs : List Value) (hbs : bs.length = 16) : Does l Z a0 h0 y_17 jdk_68_method_9_code 3 none ({ frames := 0, cells := 0, slots := 0, locals := 0 } : Room) #[.ref a, .int ((Int32.ofNat k) + 1)] [(a, o_SB (.ref b) (.int 0) (.int (Int32.ofNat k))), (b, oBs bs)] (fun v F => v = none ∧ F = [(a, o_SB (.ref b) (.int 0) (.int (Int32.ofNat k))), (b, oBs bs)]) := by
  refine Does.mk #[.val (.ref a), .val (.int ((Int32.ofNat k) + 1)), .unset] (plainFor_of_name (by decide +kernel)) (fun m => by first | (simp [entryFrame, mkF, argsToLocals, Value.category]; done) | rfl) ?_
  intro p e s m args below meth c h X
  show Goes _ _ _ _ _ _ _ _ _ _ _ _ _ _ _ _ _ _ [(a, o_SB (.ref b) (.int 0) (.int (Int32.ofNat k))), (b, oBs bs)] 0 0 (mkF m 0 #[.val (.ref a), .val (.int ((Int32.ofNat k) + 1)), .unset] [])
  refine Goes.runS X [(.aload_n 0, 1)] (S' := [.ref a]) (pc' := 1) rfl ?_
  refine Goes.getF X 0 0 rfl rfl (wd hw 34 rfl) Via.refl ?_
  refine Goes.alen X 1 (n := 16) rfl (by rw [hbs]; rfl) ?_
  show Goes _ _ _ _ _ _ _ _ _ _ _ _ _ _ _ _ _ _ [(a, o_SB (.ref b) (.int 0) (.int (Int32.ofNat k))), (b, oBs bs)] 0 0 (mkF m 5 #[.val (.ref a), .val (.int ((Int32.ofNat k) + 1)), .unset] [.int (16 : Int32)])
  refine Goes.runS X [(.aload_n 0, 1)] (S' := [.ref a, .int (16 : Int32)]) (pc' := 6) rfl ?_
  refine Goes.getF X 0 1 rfl rfl (wd hw 36 rfl) Via.refl ?_
  refine Goes.run X [(.ishr, 1), (.istore_n 2, 1), (.iload_n 1, 1), (.iload_n 2, 1), (.isub, 1)] (L' := #[.val (.ref a), .val (.int ((Int32.ofNat k) + 1)), .val (.int ((16 : Int32) >>> ((0 : Int32) &&& 31)))]) (S' := [.int (((Int32.ofNat k) + 1) - ((16 : Int32) >>> ((0 : Int32) &&& 31)))]) (pc' := 14) rfl ?_
  refine Goes.if1 X (pc' := 38) (o := 24) (cd := .le) (fun _ => ?_) (fun q => absurd (q.symm.trans (own_cap k hk)) (by decide))
  refine Goes.retV X ?_
  exact ⟨rfl, rfl⟩
set_option maxRecDepth 65536 in
set_option maxHeartbeats 40000000 in
theorem D_isl (l : Launch) (Z : State) (a0 : Array Value) (h0 : Heap) (hw : ∀ d ∈ tables_1, d.before a0 Z = true) (cs : Int32) (hCS : Sta Z h0 "java/lang/String" "COMPACT_STRINGS" "Z" (.int cs)) (hcs : ¬ cs = 0) (a : Addr) (v0 v2 : Value) : Does l Z a0 h0 y_18 jdk_68_method_68_code 1 (some .boolean) ({ frames := 0, cells := 0, slots := 0, locals := 0 } : Room) #[.ref a] [(a, o_SB (v0) (.int 0) (v2))] (fun v F => v = some (.int 1) ∧ F = [(a, o_SB (v0) (.int 0) (v2))]) := by
  refine Does.mk #[.val (.ref a)] (plainFor_of_name (by decide +kernel)) (fun m => by first | (simp [entryFrame, mkF, argsToLocals, Value.category]; done) | rfl) ?_
  intro p e s m args below meth c h X
  show Goes _ _ _ _ _ _ _ _ _ _ _ _ _ _ _ _ _ _ [(a, o_SB (v0) (.int 0) (v2))] 0 0 (mkF m 0 #[.val (.ref a)] [])
  refine Goes.getS X (wd hw 31 rfl) Via.refl hCS ?_
  refine Goes.if1 X (pc' := 17) (o := 14) (cd := .eq) (fun q => absurd (q.symm.trans (by simpa [ifCond.holds] using hcs : ifCond.holds .eq cs = false)) (by decide)) (fun _ => ?_)
  refine Goes.runS X [(.aload_n 0, 1)] (S' := [.ref a]) (pc' := 7) rfl ?_
  refine Goes.getF X 0 1 rfl rfl (wd hw 36 rfl) Via.refl ?_
  refine Goes.if1 X (pc' := 17) (o := 7) (cd := .ne) (fun q => absurd q (by decide)) (fun _ => ?_)
  refine Goes.runS X [(.iconst 1, 1)] (S' := [.int (1 : Int32)]) (pc' := 14) rfl ?_
  refine Goes.goto X (o := 4) (pc' := 18) ?_
  refine Goes.retI X (by simp) rfl ?_
  exact ⟨rfl, rfl⟩
set_option maxRecDepth 65536 in
set_option maxHeartbeats 40000000 in
theorem D_can (l : Launch) (Z : State) (a0 : Array Value) (h0 : Heap) (hw : ∀ d ∈ tables_1, d.before a0 Z = true) (c' : Int32) (hc : c' ≤ 255) : Does l Z a0 h0 y_19 jdk_43_method_3_code 1 (some .boolean) ({ frames := 0, cells := 0, slots := 0, locals := 0 } : Room) #[.int c'] [] (fun v F => v = some (.int 1) ∧ F = []) := by
  refine Does.mk #[.val (.int c')] (plainFor_of_name (by decide +kernel)) (fun m => by first | (simp [entryFrame, mkF, argsToLocals, Value.category]; done) | rfl) ?_
  intro p e s m args below meth c h X
  show Goes _ _ _ _ _ _ _ _ _ _ _ _ _ _ _ _ _ _ [] 0 0 (mkF m 0 #[.val (.int c')] [])
  refine Goes.runS X [(.iload_n 0, 1), (.sipush 255, 3)] (S' := [.int (255 : Int32), .int c']) (pc' := 4) rfl ?_
  refine Goes.if2 X (pc' := 11) (o := 7) (cd := .gt) (fun q => absurd (q.symm.trans (by simpa [if_icmp.holds] using hc : if_icmp.holds .gt c' (255 : Int32) = false)) (by decide)) (fun _ => ?_)
  refine Goes.runS X [(.iconst 1, 1)] (S' := [.int (1 : Int32)]) (pc' := 8) rfl ?_
  refine Goes.goto X (o := 4) (pc' := 12) ?_
  refine Goes.retI X (by simp) rfl ?_
  exact ⟨rfl, rfl⟩
set_option maxRecDepth 65536 in
set_option maxHeartbeats 40000000 in
theorem D_aap (l : Launch) (Z : State) (a0 : Array Value) (h0 : Heap) (hw : ∀ d ∈ tables_1, d.before a0 Z = true) (cs : Int32) (hCS : Sta Z h0 "java/lang/String" "COMPACT_STRINGS" "Z" (.int cs)) (hcs : ¬ cs = 0) (a b : Addr) (k : Nat) (hk : k < 16) (bs : List Value) (hbs : bs.length = 16) (c' : Int32) (hc : c' ≤ 255) : Does l Z a0 h0 y_16 jdk_68_method_31_code 2 (some (.object "java/lang/AbstractStringBuilder")) ({ frames := 1, cells := 0, slots := 0, locals := 14 } : Room) #[.ref a, .int c'] [(a, o_SB (.ref b) (.int 0) (.int (Int32.ofNat k))), (b, oBs bs)] (fun v F => v = some (.ref a) ∧ F = [(a, o_SB (.ref b) (.int 0) (.int (Int32.ofNat (k + 1)))), (b, oBs (bs.set k (.int (oI2b c'))))]) := by
  refine Does.mk #[.val (.ref a), .val (.int c')] (plainFor_of_name (by decide +kernel)) (fun m => by first | (simp [entryFrame, mkF, argsToLocals, Value.category]; done) | rfl) ?_
  intro p e s m args below meth c h X
  show Goes _ _ _ _ _ _ _ _ _ _ _ _ _ _ _ _ _ _ [(a, o_SB (.ref b) (.int 0) (.int (Int32.ofNat k))), (b, oBs bs)] 0 0 (mkF m 0 #[.val (.ref a), .val (.int c')] [])
  refine Goes.runS X [(.aload_n 0, 1), (.aload_n 0, 1)] (S' := [.ref a, .ref a]) (pc' := 2) rfl ?_
  refine Goes.getF X 0 2 rfl rfl (wd hw 75 rfl) Via.refl ?_
  refine Goes.runS X [(.iconst 1, 1), (.iadd, 1)] (S' := [.int ((Int32.ofNat k) + (1 : Int32)), .ref a]) (pc' := 7) rfl ?_
  refine Goes.callP X 0 0 [0, 1] [] rfl (D_ens l Z a0 h0 hw a b k hk bs hbs) (wd hw 104 rfl) (wd hw 105 rfl) (wd hw 106 rfl) (own_nf X (wd hw 107 rfl)) (wd hw 28 rfl) (wd hw 108 rfl) pd_y_17 rfl (st := []) rfl rfl (G := []) rfl rfl ?_
  rintro _ _ ⟨rfl, rfl⟩
  refine Goes.runS X [(.aload_n 0, 1)] (S' := [.ref a]) (pc' := 11) rfl ?_
  refine Goes.callV X 0 0 [0] [1] rfl (D_isl l Z a0 h0 hw cs hCS hcs a (.ref b) (.int (Int32.ofNat k))) (wd hw 109 rfl) (wd hw 110 rfl) (wd hw 112 rfl) (wd hw 111 rfl) (own_nf X (wd hw 112 rfl)) (wd hw 28 rfl) (wd hw 113 rfl) pd_y_18 rfl (st := []) rfl rfl (G := [(b, oBs bs)]) rfl rfl ?_
  rintro _ _ ⟨rfl, rfl⟩
  refine Goes.if1 X (pc' := 45) (o := 31) (cd := .eq) (fun q => absurd q (by decide)) (fun _ => ?_)
  refine Goes.runS X [(.iload_n 1, 1)] (S' := [.int c']) (pc' := 18) rfl ?_
  refine Goes.callS X 0 [] [0, 1] (D_can l Z a0 h0 hw c' hc) (wd hw 114 rfl) (wd hw 115 rfl) (wd hw 116 rfl) (wd hw 117 rfl) pd_y_19 rfl (st := []) rfl rfl (G := [(a, o_SB (.ref b) (.int 0) (.int (Int32.ofNat k))), (b, oBs bs)]) rfl rfl ?_
  rintro _ _ ⟨rfl, rfl⟩
  refine Goes.if1 X (pc' := 45) (o := 24) (cd := .eq) (fun q => absurd q (by decide)) (fun _ => ?_)
  refine Goes.runS X [(.aload_n 0, 1)] (S' := [.ref a]) (pc' := 25) rfl ?_
  refine Goes.getF X 0 0 rfl rfl (wd hw 34 rfl) Via.refl ?_
  refine Goes.runS X [(.aload_n 0, 1), (.dup, 1)] (S' := [.ref a, .ref a, .ref b]) (pc' := 30) rfl ?_
  refine Goes.getF X 0 2 rfl rfl (wd hw 75 rfl) Via.refl ?_
  refine Goes.runS X [(.dup_x1, 1), (.iconst 1, 1), (.iadd, 1)] (S' := [.int ((Int32.ofNat k) + (1 : Int32)), .ref a, .int (Int32.ofNat k), .ref b]) (pc' := 36) rfl ?_
  refine Goes.putF X 0 2 rfl rfl (wd hw 75 rfl) Via.refl (Or.inl (wd hw 76 rfl)) (wd hw 19 rfl) (own_hn rfl rfl nd_SB) (ty := .int) pf_2 rfl rfl ?_
  refine Goes.runS X [(.iload_n 1, 1), (.i2b, 1)] (S' := [.int (oI2b c'), .int (Int32.ofNat k), .ref b]) (pc' := 41) rfl ?_
  rw [(own_kn k hk).2.2]
  show Goes _ _ _ _ _ _ _ _ _ _ _ _ _ _ _ _ _ _ [(a, o_SB (.ref b) (.int 0) (.int (Int32.ofNat (k + 1)))), (b, oBs bs)] 0 0 (mkF m 41 #[.val (.ref a), .val (.int c')] [.int (oI2b c'), .int (Int32.ofNat k), .ref b])
  refine Goes.bastore X 1 k rfl (own_kn k hk).1 (own_kn k hk).2.1 (by rw [hbs]; exact hk) ?_
  show Goes _ _ _ _ _ _ _ _ _ _ _ _ _ _ _ _ _ _ [(a, o_SB (.ref b) (.int 0) (.int (Int32.ofNat (k + 1)))), (b, oBs (bs.set k (.int (nar .byte (oI2b c')))))] 0 0 (mkF m 42 #[.val (.ref a), .val (.int c')] [])
  rw [own_nb]
  show Goes _ _ _ _ _ _ _ _ _ _ _ _ _ _ _ _ _ _ [(a, o_SB (.ref b) (.int 0) (.int (Int32.ofNat (k + 1)))), (b, oBs (bs.set k (.int (oI2b c'))))] 0 0 (mkF m 42 #[.val (.ref a), .val (.int c')] [])
  refine Goes.goto X (o := 33) (pc' := 75) ?_
  refine Goes.runS X [(.aload_n 0, 1)] (S' := [.ref a]) (pc' := 76) rfl ?_
  refine Goes.retA X rfl rfl rfl ?_
  exact ⟨rfl, rfl⟩
set_option maxRecDepth 65536 in
set_option maxHeartbeats 40000000 in
theorem D_sap (l : Launch) (Z : State) (a0 : Array Value) (h0 : Heap) (hw : ∀ d ∈ tables_1, d.before a0 Z = true) (cs : Int32) (hCS : Sta Z h0 "java/lang/String" "COMPACT_STRINGS" "Z" (.int cs)) (hcs : ¬ cs = 0) (a b : Addr) (k : Nat) (hk : k < 16) (bs : List Value) (hbs : bs.length = 16) (c' : Int32) (hc : c' ≤ 255) : Does l Z a0 h0 y_15 jdk_67_method_14_code 2 (some (.object "java/lang/StringBuilder")) ({ frames := 2, cells := 0, slots := 0, locals := 27 } : Room) #[.ref a, .int c'] [(a, o_SB (.ref b) (.int 0) (.int (Int32.ofNat k))), (b, oBs bs)] (fun v F => v = some (.ref a) ∧ F = [(a, o_SB (.ref b) (.int 0) (.int (Int32.ofNat (k + 1)))), (b, oBs (bs.set k (.int (oI2b c'))))]) := by
  refine Does.mk #[.val (.ref a), .val (.int c')] (plainFor_of_name (by decide +kernel)) (fun m => by first | (simp [entryFrame, mkF, argsToLocals, Value.category]; done) | rfl) ?_
  intro p e s m args below meth c h X
  show Goes _ _ _ _ _ _ _ _ _ _ _ _ _ _ _ _ _ _ [(a, o_SB (.ref b) (.int 0) (.int (Int32.ofNat k))), (b, oBs bs)] 0 0 (mkF m 0 #[.val (.ref a), .val (.int c')] [])
  refine Goes.runS X [(.aload_n 0, 1), (.iload_n 1, 1)] (S' := [.int c', .ref a]) (pc' := 2) rfl ?_
  refine Goes.callU X 0 0 [0, 1] [] rfl (D_aap l Z a0 h0 hw cs hCS hcs a b k hk bs hbs c' hc) (wd hw 100 rfl) (wd hw 101 rfl) (wd hw 72 rfl) (own_same (wd hw 107 rfl) rfl (wd hw 101 rfl) (by decide)) (by decide) (wd hw 28 rfl) (wd hw 103 rfl) pd_y_16 rfl (st := []) rfl rfl (G := []) rfl rfl ?_
  rintro _ _ ⟨rfl, rfl⟩
  refine Goes.runS X [(.pop, 1), (.aload_n 0, 1)] (S' := [.ref a]) (pc' := 7) rfl ?_
  refine Goes.retA X rfl rfl rfl ?_
  exact ⟨rfl, rfl⟩
theorem pf_4 : parseFieldDescriptor "J" = some .long := by decide +kernel
set_option maxRecDepth 65536 in
set_option maxHeartbeats 40000000 in
theorem D_sg (l : Launch) (Z : State) (a0 : Array Value) (h0 : Heap) (hw : ∀ d ∈ tables_1, d.before a0 Z = true) (cs : Int32) (hCS : Sta Z h0 "java/lang/String" "COMPACT_STRINGS" "Z" (.int cs)) (hcs : ¬ cs = 0) (d u h' b : Addr) (st en pl ne ed ex : Value) (sig : Int64) (k : Nat) (hk : k < 16) (bs : List Value) (hbs : bs.length = 16) (c' : Int32) (hc : c' ≤ 255) : Does l Z a0 h0 y_14 prog_28_method_8_code 2 none ({ frames := 3, cells := 0, slots := 0, locals := 40 } : Room) #[.ref d, .int c'] [(d, o_Dig (st) (en) (.long sig) (pl) (ne) (ed) (ex) (.ref u) (.ref h') (.int 0) (.int 0)), (u, o_SB (.ref b) (.int 0) (.int (Int32.ofNat k))), (b, oBs bs)] (fun v F => v = none ∧ F = [(d, o_Dig (st) (en) (.long (sig + 1)) (pl) (ne) (ed) (ex) (.ref u) (.ref h') (.int 0) (.int 0)), (u, o_SB (.ref b) (.int 0) (.int (Int32.ofNat (k + 1)))), (b, oBs (bs.set k (.int (oI2b c'))))]) := by
  refine Does.mk #[.val (.ref d), .val (.int c')] (plainFor_of_name (by decide +kernel)) (fun m => by first | (simp [entryFrame, mkF, argsToLocals, Value.category]; done) | rfl) ?_
  intro p e s m args below meth c h X
  show Goes _ _ _ _ _ _ _ _ _ _ _ _ _ _ _ _ _ _ [(d, o_Dig (st) (en) (.long sig) (pl) (ne) (ed) (ex) (.ref u) (.ref h') (.int 0) (.int 0)), (u, o_SB (.ref b) (.int 0) (.int (Int32.ofNat k))), (b, oBs bs)] 0 0 (mkF m 0 #[.val (.ref d), .val (.int c')] [])
  refine Goes.runS X [(.aload_n 0, 1), (.dup, 1)] (S' := [.ref d, .ref d]) (pc' := 2) rfl ?_
  refine Goes.getF X 0 2 rfl rfl (wd hw 93 rfl) Via.refl ?_
  refine Goes.runS X [(.lconst 1, 1), (.ladd, 1)] (S' := [.long (sig + (1 : Int64)), .ref d]) (pc' := 7) rfl ?_
  refine Goes.putF X 0 2 rfl rfl (wd hw 93 rfl) Via.refl (Or.inl (wd hw 94 rfl)) (wd hw 8 rfl) (own_hn rfl rfl nd_Dig) (ty := .long) pf_4 rfl rfl ?_
  refine Goes.runS X [(.aload_n 0, 1)] (S' := [.ref d]) (pc' := 11) rfl ?_
  refine Goes.getF X 0 7 rfl rfl (wd hw 38 rfl) Via.refl ?_
  refine Goes.callV X 0 1 [1] [0, 2] rfl (D_sbl l Z a0 h0 hw u (.ref b) (.int 0) (Int32.ofNat k)) (wd hw 65 rfl) (wd hw 66 rfl) (wd hw 68 rfl) (wd hw 67 rfl) (own_nf X (wd hw 68 rfl)) (wd hw 20 rfl) (wd hw 69 rfl) pd_y_8 rfl (st := []) rfl rfl (G := [(d, o_Dig (st) (en) (.long (sig + (1 : Int64))) (pl) (ne) (ed) (ex) (.ref u) (.ref h') (.int 0) (.int 0)), (b, oBs bs)]) rfl rfl ?_
  rintro _ _ ⟨rfl, rfl⟩
  refine Goes.runS X [(.bipush 60, 2)] (S' := [.int (60 : Int32), .int (Int32.ofNat k)]) (pc' := 19) rfl ?_
  refine Goes.if2 X (pc' := 31) (o := 12) (cd := .gt) (fun q => absurd (q.symm.trans (own_k60 k hk)) (by decide)) (fun _ => ?_)
  refine Goes.runS X [(.aload_n 0, 1)] (S' := [.ref d]) (pc' := 23) rfl ?_
  refine Goes.getF X 1 7 rfl rfl (wd hw 38 rfl) Via.refl ?_
  refine Goes.runS X [(.iload_n 1, 1)] (S' := [.int c', .ref u]) (pc' := 27) rfl ?_
  refine Goes.callV X 0 0 [0, 2] [1] rfl (D_sap l Z a0 h0 hw cs hCS hcs u b k hk bs hbs c' hc) (wd hw 95 rfl) (wd hw 96 rfl) (wd hw 98 rfl) (wd hw 97 rfl) (own_nf X (wd hw 98 rfl)) (wd hw 20 rfl) (wd hw 99 rfl) pd_y_15 rfl (st := []) rfl rfl (G := [(d, o_Dig (st) (en) (.long (sig + (1 : Int64))) (pl) (ne) (ed) (ex) (.ref u) (.ref h') (.int 0) (.int 0))]) rfl rfl ?_
  rintro _ _ ⟨rfl, rfl⟩
  refine Goes.runS X [(.pop, 1)] (S' := []) (pc' := 31) rfl ?_
  refine Goes.sub [2, 0, 1] (G := [(d, o_Dig (st) (en) (.long (sig + (1 : Int64))) (pl) (ne) (ed) (ex) (.ref u) (.ref h') (.int 0) (.int 0)), (u, o_SB (.ref b) (.int 0) (.int (Int32.ofNat (k + 1)))), (b, oBs (bs.set k (.int (oI2b c'))))]) rfl ?_
  refine Goes.retV X ?_
  exact ⟨rfl, rfl⟩
def own_dig (c : Int32) : Int32 := if c < 48 then 0 else if 57 < c then 0 else 1
set_option maxRecDepth 65536 in
set_option maxHeartbeats 40000000 in
theorem D_isd (l : Launch) (Z : State) (a0 : Array Value) (h0 : Heap) (hw : ∀ d ∈ tables_1, d.before a0 Z = true) (c' : Int32) : Does l Z a0 h0 y_7 prog_27_method_9_code 1 (some .boolean) ({ frames := 0, cells := 0, slots := 0, locals := 0 } : Room) #[.int c'] [] (fun v F => v = some (.int (own_dig c')) ∧ F = []) := by
  refine Does.mk #[.val (.int c')] (plainFor_of_name (by decide +kernel)) (fun m => by first | (simp [entryFrame, mkF, argsToLocals, Value.category]; done) | rfl) ?_
  intro p e s m args below meth c h X
  show Goes _ _ _ _ _ _ _ _ _ _ _ _ _ _ _ _ _ _ [] 0 0 (mkF m 0 #[.val (.int c')] [])
  refine Goes.runS X [(.iload_n 0, 1), (.bipush 48, 2)] (S' := [.int (48 : Int32), .int c']) (pc' := 3) rfl ?_
  refine Goes.if2 X (pc' := 16) (o := 13) (cd := .lt) (fun q7 => ?_) (fun q7 => ?_)
  · have h8 : c' < 48 := by simpa [if_icmp.holds] using q7
    refine Goes.runS X [(.iconst 0, 1)] (S' := [.int (0 : Int32)]) (pc' := 17) rfl ?_
    refine Goes.retI X (by simp) rfl ?_
    exact ⟨by simp [own_dig, h8], rfl⟩
  · have h9 : ¬ c' < 48 := by simpa [if_icmp.holds] using q7
    refine Goes.runS X [(.iload_n 0, 1), (.bipush 57, 2)] (S' := [.int (57 : Int32), .int c']) (pc' := 9) rfl ?_
    refine Goes.if2 X (pc' := 16) (o := 7) (cd := .gt) (fun q10 => ?_) (fun q10 => ?_)
    · have h11 : 57 < c' := by simpa [if_icmp.holds] using q10
      refine Goes.runS X [(.iconst 0, 1)] (S' := [.int (0 : Int32)]) (pc' := 17) rfl ?_
      refine Goes.retI X (by simp) rfl ?_
      exact ⟨by simp [own_dig, h9, h11], rfl⟩
    · have h12 : ¬ 57 < c' := by simpa [if_icmp.holds] using q10
      refine Goes.runS X [(.iconst 1, 1)] (S' := [.int (1 : Int32)]) (pc' := 13) rfl ?_
      refine Goes.goto X (o := 4) (pc' := 17) ?_
      refine Goes.retI X (by simp) rfl ?_
      exact ⟨by simp [own_dig, h9, h12], rfl⟩
theorem own_d0 : own_dig 45 = 0 ∧ own_dig 43 = 0 ∧ own_dig 46 = 0 ∧ own_dig 101 = 0 ∧ own_dig 69 = 0 ∧ own_dig 48 = 1 := by decide
def own_next (st c : Int32) : Int32 :=
  if st = 0 then (if c = 45 then 1 else if c = 48 then 2 else if own_dig c = 0 then 9 else 3)
  else if st = 1 then (if c = 48 then 2 else if own_dig c = 0 then 9 else 3)
  else if st = 2 ∨ st = 3 then (if own_dig c = 0 then (if c = 46 then 4 else if c = 101 ∨ c = 69 then 6 else 9) else 3)
  else if st = 4 then (if own_dig c = 0 then 9 else 5)
  else if st = 5 then (if own_dig c = 0 then (if c = 101 ∨ c = 69 then 6 else 9) else 5)
  else if st = 6 then (if c = 45 ∨ c = 43 then 7 else if own_dig c = 0 then 9 else 8)
  else (if own_dig c = 0 then 9 else 8)
def own_st (st c : Int32) : Int32 := if own_next st c = 9 then st else own_next st c
def own_en (en st c : Int32) : Int32 := if own_next st c = 9 then 1 else en
def own_ok (st : Int32) : Prop := st = 0 ∨ st = 1 ∨ st = 2 ∨ st = 3 ∨ st = 4 ∨ st = 5 ∨ st = 6 ∨ st = 7 ∨ st = 8
theorem own_next_ok (st c : Int32) : own_next st c = 9 ∨ (1 ≤ own_next st c ∧ own_ok (own_next st c)) := by
  unfold own_next own_ok
  repeat' split
  all_goals decide
theorem own_st_ok {st : Int32} (c : Int32) (h : own_ok st) : own_ok (own_st st c) := by
  unfold own_st
  split
  · exact h
  · rcases own_next_ok st c with q | q
    · contradiction
    · exact q.2
def own_addQ (d u h' b : Addr) (hv : Value) (st en : Int32) (k : Nat) (v : Option Value) (F : OHp) : Prop := ∃ (r : Int32) (sig pl : Int64) (ne ed : Int32) (ex : Int64) (k' : Nat) (bs : List Value), v = some (.int r) ∧ k' ≤ k + 2 ∧ bs.length = 16 ∧ F = [(d, o_Dig (.int st) (.int en) (.long sig) (.long pl) (.int ne) (.int ed) (.long ex) (.ref u) (.ref h') (.int 0) (.int 0)), (u, o_SB (.ref b) (.int 0) (.int (Int32.ofNat k'))), (b, oBs bs), (h', o_SB (hv) (.int 0) (.int 0))]
theorem pf_5 : parseFieldDescriptor "Z" = some .boolean := by decide +kernel
theorem own_18 {st c nx : Int32} (h : own_next st c = nx) (h9 : ¬ nx = 9) : nx = 1 ∨ nx = 2 ∨ nx = 3 ∨ nx = 4 ∨ nx = 5 ∨ nx = 6 ∨ nx = 7 ∨ nx = 8 := by
  subst h
  rcases own_next_ok st c with q | ⟨q0, q⟩
  · exact absurd q h9
  · rcases q with q | q | q | q | q | q | q | q | q <;> rw [q] at q0 ⊢ <;> first | (simp; done) | (exact absurd q0 (by decide))
set_option maxRecDepth 65536 in
set_option maxHeartbeats 40000000 in
theorem D_add (l : Launch) (Z : State) (a0 : Array Value) (h0 : Heap) (hw : ∀ d ∈ tables_1, d.before a0 Z = true) (cs : Int32) (hCS : Sta Z h0 "java/lang/String" "COMPACT_STRINGS" "Z" (.int cs)) (hcs : ¬ cs = 0) (d u h' b : Addr) (hv : Value) (st en : Int32) (hok : own_ok st) (sig pl : Int64) (ne ed : Int32) (ex : Int64) (k : Nat) (hk : k + 2 ≤ 16) (bs : List Value) (hbs : bs.length = 16) (c' : Int32) (hc : c' ≤ 255) : Does l Z a0 h0 y_6 prog_28_method_2_code 5 (some .boolean) ({ frames := 4, cells := 0, slots := 0, locals := 53 } : Room) #[.ref d, .int c'] [(d, o_Dig (.int st) (.int en) (.long sig) (.long pl) (.int ne) (.int ed) (.long ex) (.ref u) (.ref h') (.int 0) (.int 0)), (u, o_SB (.ref b) (.int 0) (.int (Int32.ofNat k))), (b, oBs bs), (h', o_SB (hv) (.int 0) (.int 0))] (own_addQ d u h' b hv (own_st st c') (own_en en st c') k) := by
  refine Does.mk #[.val (.ref d), .val (.int c'), .unset, .unset, .unset] (plainFor_of_name (by decide +kernel)) (fun m => by first | (simp [entryFrame, mkF, argsToLocals, Value.category]; done) | rfl) ?_
  intro p e s m args below meth c h X
  have hk16 : k < 16 := by omega
  show Goes _ _ _ _ _ _ _ _ _ _ _ _ _ _ _ _ _ _ [(d, o_Dig (.int st) (.int en) (.long sig) (.long pl) (.int ne) (.int ed) (.long ex) (.ref u) (.ref h') (.int 0) (.int 0)), (u, o_SB (.ref b) (.int 0) (.int (Int32.ofNat k))), (b, oBs bs), (h', o_SB (hv) (.int 0) (.int 0))] 0 0 (mkF m 0 #[.val (.ref d), .val (.int c'), .unset, .unset, .unset] [])
  have E : ∀ (dg mk nx : Int32) (sg2 pl2 : Int64) (ne2 ed2 : Int32) (ex2 : Int64) (k2 : Nat) (bs2 : List Value), k2 ≤ k + 2 → bs2.length = 16 → own_st st c' = nx → own_en en st c' = en → Goes p l e ({ frames := 4, cells := 0, slots := 0, locals := 53 } : Room) s m args below meth c Z a0 h0 h ([(d, o_Dig (.int st) (.int en) (.long sig) (.long pl) (.int ne) (.int ed) (.long ex) (.ref u) (.ref h') (.int 0) (.int 0)), (u, o_SB (.ref b) (.int 0) (.int (Int32.ofNat k))), (b, oBs bs), (h', o_SB (hv) (.int 0) (.int 0))].map (·.1)) ({ frames := 4, cells := 0, slots := 0, locals := 53 } : Room).cells ({ frames := 4, cells := 0, slots := 0, locals := 53 } : Room).slots (own_addQ d u h' b hv (own_st st c') (own_en en st c') k) [(d, o_Dig (.int nx) (.int en) (.long sg2) (.long pl2) (.int ne2) (.int ed2) (.long ex2) (.ref u) (.ref h') (.int 0) (.int 0)), (u, o_SB (.ref b) (.int 0) (.int (Int32.ofNat k2))), (b, oBs bs2), (h', o_SB (hv) (.int 0) (.int 0))] 0 0 (mkF m 431 #[.val (.ref d), .val (.int c'), .val (.int dg), .val (.int mk), .val (.int nx)] []) := by
    intro dg mk nx sg2 pl2 ne2 ed2 ex2 k2 bs2 hk2 hbs2 hst hen
    refine Goes.runS X [(.aload_n 0, 1)] (S' := [.ref d]) (pc' := 432) rfl ?_
    refine Goes.getF X 0 8 rfl rfl (wd hw 40 rfl) Via.refl ?_
    refine Goes.callV X 0 3 [3] [0, 1, 2] rfl (D_sbl l Z a0 h0 hw h' hv (.int 0) 0) (wd hw 65 rfl) (wd hw 66 rfl) (wd hw 68 rfl) (wd hw 67 rfl) (own_nf X (wd hw 68 rfl)) (wd hw 20 rfl) (wd hw 69 rfl) pd_y_8 rfl (st := []) rfl rfl (G := [(d, o_Dig (.int nx) (.int en) (.long sg2) (.long pl2) (.int ne2) (.int ed2) (.long ex2) (.ref u) (.ref h') (.int 0) (.int 0)), (u, o_SB (.ref b) (.int 0) (.int (Int32.ofNat k2))), (b, oBs bs2)]) rfl rfl ?_
    rintro _ _ ⟨rfl, rfl⟩
    refine Goes.runS X [(.aload_n 0, 1)] (S' := [.ref d, .int (0 : Int32)]) (pc' := 439) rfl ?_
    refine Goes.getF X 1 10 rfl rfl (wd hw 44 rfl) Via.refl ?_
    refine Goes.if2 X (pc' := 486) (o := 44) (cd := .ge) (fun _ => ?_) (fun q => absurd q (by decide))
    refine Goes.runS X [(.iconst 1, 1)] (S' := [.int (1 : Int32)]) (pc' := 487) rfl ?_
    refine Goes.sub [1, 2, 3, 0] (G := [(d, o_Dig (.int nx) (.int en) (.long sg2) (.long pl2) (.int ne2) (.int ed2) (.long ex2) (.ref u) (.ref h') (.int 0) (.int 0)), (u, o_SB (.ref b) (.int 0) (.int (Int32.ofNat k2))), (b, oBs bs2), (h', o_SB (hv) (.int 0) (.int 0))]) rfl ?_
    refine Goes.retI X (by simp) rfl ?_
    exact ⟨1, sg2, pl2, ne2, ed2, ex2, k2, bs2, rfl, hk2, hbs2, by rw [hst, hen] <;> rfl⟩
  have M : ∀ (dg mk nx : Int32) (sg1 : Int64) (k1 : Nat) (bs1 : List Value), k1 ≤ k + 1 → bs1.length = 16 → (nx = 1 ∨ nx = 2 ∨ nx = 3 ∨ nx = 4 ∨ nx = 5 ∨ nx = 6 ∨ nx = 7 ∨ nx = 8) → own_st st c' = nx → own_en en st c' = en → Goes p l e ({ frames := 4, cells := 0, slots := 0, locals := 53 } : Room) s m args below meth c Z a0 h0 h ([(d, o_Dig (.int st) (.int en) (.long sig) (.long pl) (.int ne) (.int ed) (.long ex) (.ref u) (.ref h') (.int 0) (.int 0)), (u, o_SB (.ref b) (.int 0) (.int (Int32.ofNat k))), (b, oBs bs), (h', o_SB (hv) (.int 0) (.int 0))].map (·.1)) ({ frames := 4, cells := 0, slots := 0, locals := 53 } : Room).cells ({ frames := 4, cells := 0, slots := 0, locals := 53 } : Room).slots (own_addQ d u h' b hv (own_st st c') (own_en en st c') k) [(d, o_Dig (.int st) (.int en) (.long sg1) (.long pl) (.int ne) (.int ed) (.long ex) (.ref u) (.ref h') (.int 0) (.int 0)), (u, o_SB (.ref b) (.int 0) (.int (Int32.ofNat k1))), (b, oBs bs1), (h', o_SB (hv) (.int 0) (.int 0))] 0 0 (mkF m 282 #[.val (.ref d), .val (.int c'), .val (.int dg), .val (.int mk), .val (.int nx)] []) := by
    intro dg mk nx sg1 k1 bs1 hk1 hbs1 hnx hst hen
    have hk1' : k1 < 16 := by omega
    rcases hnx with rfl | rfl | rfl | rfl | rfl | rfl | rfl | rfl
    · show Goes _ _ _ _ _ _ _ _ _ _ _ _ _ _ _ _ _ _ [(d, o_Dig (.int st) (.int en) (.long sg1) (.long pl) (.int ne) (.int ed) (.long ex) (.ref u) (.ref h') (.int 0) (.int 0)), (u, o_SB (.ref b) (.int 0) (.int (Int32.ofNat k1))), (b, oBs bs1), (h', o_SB (hv) (.int 0) (.int 0))] 0 0 (mkF m 282 #[.val (.ref d), .val (.int c'), .val (.int dg), .val (.int mk), .val (.int (1 : Int32))] [])
      refine Goes.runS X [(.aload_n 0, 1), (.iload 4, 2)] (S' := [.int (1 : Int32), .ref d]) (pc' := 285) rfl ?_
      refine Goes.putF X 0 0 rfl rfl (wd hw 16 rfl) Via.refl (Or.inl (wd hw 17 rfl)) (wd hw 8 rfl) (own_hn rfl rfl nd_Dig) (ty := .int) pf_2 rfl rfl ?_
      refine Goes.runS X [(.aload_n 0, 1)] (S' := [.ref d]) (pc' := 289) rfl ?_
      refine Goes.getF X 0 0 rfl rfl (wd hw 16 rfl) Via.refl ?_
      refine Goes.runS X [(.iconst 3, 1)] (S' := [.int (3 : Int32), .int (1 : Int32)]) (pc' := 293) rfl ?_
      refine Goes.if2 X (pc' := 304) (o := 11) (cd := .ne) (fun _ => ?_) (fun q => absurd q (by decide))
      refine Goes.runS X [(.aload_n 0, 1)] (S' := [.ref d]) (pc' := 305) rfl ?_
      refine Goes.getF X 0 0 rfl rfl (wd hw 16 rfl) Via.refl ?_
      refine Goes.runS X [(.iconst 5, 1)] (S' := [.int (5 : Int32), .int (1 : Int32)]) (pc' := 309) rfl ?_
      refine Goes.if2 X (pc' := 345) (o := 36) (cd := .ne) (fun _ => ?_) (fun q => absurd q (by decide))
      refine Goes.runS X [(.aload_n 0, 1)] (S' := [.ref d]) (pc' := 346) rfl ?_
      refine Goes.getF X 0 0 rfl rfl (wd hw 16 rfl) Via.refl ?_
      refine Goes.runS X [(.bipush 7, 2)] (S' := [.int (7 : Int32), .int (1 : Int32)]) (pc' := 351) rfl ?_
      refine Goes.if2 X (pc' := 372) (o := 21) (cd := .ne) (fun _ => ?_) (fun q => absurd q (by decide))
      refine Goes.runS X [(.aload_n 0, 1)] (S' := [.ref d]) (pc' := 373) rfl ?_
      refine Goes.getF X 0 0 rfl rfl (wd hw 16 rfl) Via.refl ?_
      refine Goes.runS X [(.bipush 8, 2)] (S' := [.int (8 : Int32), .int (1 : Int32)]) (pc' := 378) rfl ?_
      refine Goes.if2 X (pc' := 431) (o := 53) (cd := .ne) (fun _ => ?_) (fun q => absurd q (by decide))
      exact E dg mk 1 sg1 pl ne ed ex k1 bs1 (by omega) hbs1 hst hen
    · show Goes _ _ _ _ _ _ _ _ _ _ _ _ _ _ _ _ _ _ [(d, o_Dig (.int st) (.int en) (.long sg1) (.long pl) (.int ne) (.int ed) (.long ex) (.ref u) (.ref h') (.int 0) (.int 0)), (u, o_SB (.ref b) (.int 0) (.int (Int32.ofNat k1))), (b, oBs bs1), (h', o_SB (hv) (.int 0) (.int 0))] 0 0 (mkF m 282 #[.val (.ref d), .val (.int c'), .val (.int dg), .val (.int mk), .val (.int (2 : Int32))] [])
      refine Goes.runS X [(.aload_n 0, 1), (.iload 4, 2)] (S' := [.int (2 : Int32), .ref d]) (pc' := 285) rfl ?_
      refine Goes.putF X 0 0 rfl rfl (wd hw 16 rfl) Via.refl (Or.inl (wd hw 17 rfl)) (wd hw 8 rfl) (own_hn rfl rfl nd_Dig) (ty := .int) pf_2 rfl rfl ?_
      refine Goes.runS X [(.aload_n 0, 1)] (S' := [.ref d]) (pc' := 289) rfl ?_
      refine Goes.getF X 0 0 rfl rfl (wd hw 16 rfl) Via.refl ?_
      refine Goes.runS X [(.iconst 3, 1)] (S' := [.int (3 : Int32), .int (2 : Int32)]) (pc' := 293) rfl ?_
      refine Goes.if2 X (pc' := 304) (o := 11) (cd := .ne) (fun _ => ?_) (fun q => absurd q (by decide))
      refine Goes.runS X [(.aload_n 0, 1)] (S' := [.ref d]) (pc' := 305) rfl ?_
      refine Goes.getF X 0 0 rfl rfl (wd hw 16 rfl) Via.refl ?_
      refine Goes.runS X [(.iconst 5, 1)] (S' := [.int (5 : Int32), .int (2 : Int32)]) (pc' := 309) rfl ?_
      refine Goes.if2 X (pc' := 345) (o := 36) (cd := .ne) (fun _ => ?_) (fun q => absurd q (by decide))
      refine Goes.runS X [(.aload_n 0, 1)] (S' := [.ref d]) (pc' := 346) rfl ?_
      refine Goes.getF X 0 0 rfl rfl (wd hw 16 rfl) Via.refl ?_
      refine Goes.runS X [(.bipush 7, 2)] (S' := [.int (7 : Int32), .int (2 : Int32)]) (pc' := 351) rfl ?_
      refine Goes.if2 X (pc' := 372) (o := 21) (cd := .ne) (fun _ => ?_) (fun q => absurd q (by decide))
      refine Goes.runS X [(.aload_n 0, 1)] (S' := [.ref d]) (pc' := 373) rfl ?_
      refine Goes.getF X 0 0 rfl rfl (wd hw 16 rfl) Via.refl ?_
      refine Goes.runS X [(.bipush 8, 2)] (S' := [.int (8 : Int32), .int (2 : Int32)]) (pc' := 378) rfl ?_
      refine Goes.if2 X (pc' := 431) (o := 53) (cd := .ne) (fun _ => ?_) (fun q => absurd q (by decide))
      exact E dg mk 2 sg1 pl ne ed ex k1 bs1 (by omega) hbs1 hst hen
    · show Goes _ _ _ _ _ _ _ _ _ _ _ _ _ _ _ _ _ _ [(d, o_Dig (.int st) (.int en) (.long sg1) (.long pl) (.int ne) (.int ed) (.long ex) (.ref u) (.ref h') (.int 0) (.int 0)), (u, o_SB (.ref b) (.int 0) (.int (Int32.ofNat k1))), (b, oBs bs1), (h', o_SB (hv) (.int 0) (.int 0))] 0 0 (mkF m 282 #[.val (.ref d), .val (.int c'), .val (.int dg), .val (.int mk), .val (.int (3 : Int32))] [])
      refine Goes.runS X [(.aload_n 0, 1), (.iload 4, 2)] (S' := [.int (3 : Int32), .ref d]) (pc' := 285) rfl ?_
      refine Goes.putF X 0 0 rfl rfl (wd hw 16 rfl) Via.refl (Or.inl (wd hw 17 rfl)) (wd hw 8 rfl) (own_hn rfl rfl nd_Dig) (ty := .int) pf_2 rfl rfl ?_
      refine Goes.runS X [(.aload_n 0, 1)] (S' := [.ref d]) (pc' := 289) rfl ?_
      refine Goes.getF X 0 0 rfl rfl (wd hw 16 rfl) Via.refl ?_
      refine Goes.runS X [(.iconst 3, 1)] (S' := [.int (3 : Int32), .int (3 : Int32)]) (pc' := 293) rfl ?_
      refine Goes.if2 X (pc' := 304) (o := 11) (cd := .ne) (fun q => absurd q (by decide)) (fun _ => ?_)
      refine Goes.runS X [(.aload_n 0, 1), (.iload_n 1, 1)] (S' := [.int c', .ref d]) (pc' := 298) rfl ?_
      refine Goes.callP X 0 0 [0, 1, 2] [3] rfl (D_sg l Z a0 h0 hw cs hCS hcs d u h' b (.int 3) (.int en) (.long pl) (.int ne) (.int ed) (.long ex) sg1 k1 hk1' bs1 hbs1 c' hc) (wd hw 89 rfl) (wd hw 90 rfl) (wd hw 91 rfl) (nf_inst X (wd hw 8 rfl)) (wd hw 9 rfl) (wd hw 92 rfl) pd_y_14 rfl (st := []) rfl rfl (G := [(h', o_SB (hv) (.int 0) (.int 0))]) rfl rfl ?_
      rintro _ _ ⟨rfl, rfl⟩
      refine Goes.goto X (o := 130) (pc' := 431) ?_
      refine Goes.sub [0, 1, 2, 3] (G := [(d, o_Dig (.int (3 : Int32)) (.int en) (.long (sg1 + 1)) (.long pl) (.int ne) (.int ed) (.long ex) (.ref u) (.ref h') (.int 0) (.int 0)), (u, o_SB (.ref b) (.int 0) (.int (Int32.ofNat (k1 + 1)))), (b, oBs (bs1.set k1 (.int (oI2b c')))), (h', o_SB (hv) (.int 0) (.int 0))]) rfl ?_
      exact E dg mk 3 (sg1 + 1) pl ne ed ex (k1 + 1) _ (by omega) (by rw [List.length_set]; exact hbs1) hst hen
    · show Goes _ _ _ _ _ _ _ _ _ _ _ _ _ _ _ _ _ _ [(d, o_Dig (.int st) (.int en) (.long sg1) (.long pl) (.int ne) (.int ed) (.long ex) (.ref u) (.ref h') (.int 0) (.int 0)), (u, o_SB (.ref b) (.int 0) (.int (Int32.ofNat k1))), (b, oBs bs1), (h', o_SB (hv) (.int 0) (.int 0))] 0 0 (mkF m 282 #[.val (.ref d), .val (.int c'), .val (.int dg), .val (.int mk), .val (.int (4 : Int32))] [])
      refine Goes.runS X [(.aload_n 0, 1), (.iload 4, 2)] (S' := [.int (4 : Int32), .ref d]) (pc' := 285) rfl ?_
      refine Goes.putF X 0 0 rfl rfl (wd hw 16 rfl) Via.refl (Or.inl (wd hw 17 rfl)) (wd hw 8 rfl) (own_hn rfl rfl nd_Dig) (ty := .int) pf_2 rfl rfl ?_
      refine Goes.runS X [(.aload_n 0, 1)] (S' := [.ref d]) (pc' := 289) rfl ?_
      refine Goes.getF X 0 0 rfl rfl (wd hw 16 rfl) Via.refl ?_
      refine Goes.runS X [(.iconst 3, 1)] (S' := [.int (3 : Int32), .int (4 : Int32)]) (pc' := 293) rfl ?_
      refine Goes.if2 X (pc' := 304) (o := 11) (cd := .ne) (fun _ => ?_) (fun q => absurd q (by decide))
      refine Goes.runS X [(.aload_n 0, 1)] (S' := [.ref d]) (pc' := 305) rfl ?_
      refine Goes.getF X 0 0 rfl rfl (wd hw 16 rfl) Via.refl ?_
      refine Goes.runS X [(.iconst 5, 1)] (S' := [.int (5 : Int32), .int (4 : Int32)]) (pc' := 309) rfl ?_
      refine Goes.if2 X (pc' := 345) (o := 36) (cd := .ne) (fun _ => ?_) (fun q => absurd q (by decide))
      refine Goes.runS X [(.aload_n 0, 1)] (S' := [.ref d]) (pc' := 346) rfl ?_
      refine Goes.getF X 0 0 rfl rfl (wd hw 16 rfl) Via.refl ?_
      refine Goes.runS X [(.bipush 7, 2)] (S' := [.int (7 : Int32), .int (4 : Int32)]) (pc' := 351) rfl ?_
      refine Goes.if2 X (pc' := 372) (o := 21) (cd := .ne) (fun _ => ?_) (fun q => absurd q (by decide))
      refine Goes.runS X [(.aload_n 0, 1)] (S' := [.ref d]) (pc' := 373) rfl ?_
      refine Goes.getF X 0 0 rfl rfl (wd hw 16 rfl) Via.refl ?_
      refine Goes.runS X [(.bipush 8, 2)] (S' := [.int (8 : Int32), .int (4 : Int32)]) (pc' := 378) rfl ?_
      refine Goes.if2 X (pc' := 431) (o := 53) (cd := .ne) (fun _ => ?_) (fun q => absurd q (by decide))
      exact E dg mk 4 sg1 pl ne ed ex k1 bs1 (by omega) hbs1 hst hen
    · show Goes _ _ _ _ _ _ _ _ _ _ _ _ _ _ _ _ _ _ [(d, o_Dig (.int st) (.int en) (.long sg1) (.long pl) (.int ne) (.int ed) (.long ex) (.ref u) (.ref h') (.int 0) (.int 0)), (u, o_SB (.ref b) (.int 0) (.int (Int32.ofNat k1))), (b, oBs bs1), (h', o_SB (hv) (.int 0) (.int 0))] 0 0 (mkF m 282 #[.val (.ref d), .val (.int c'), .val (.int dg), .val (.int mk), .val (.int (5 : Int32))] [])
      refine Goes.runS X [(.aload_n 0, 1), (.iload 4, 2)] (S' := [.int (5 : Int32), .ref d]) (pc' := 285) rfl ?_
      refine Goes.putF X 0 0 rfl rfl (wd hw 16 rfl) Via.refl (Or.inl (wd hw 17 rfl)) (wd hw 8 rfl) (own_hn rfl rfl nd_Dig) (ty := .int) pf_2 rfl rfl ?_
      refine Goes.runS X [(.aload_n 0, 1)] (S' := [.ref d]) (pc' := 289) rfl ?_
      refine Goes.getF X 0 0 rfl rfl (wd hw 16 rfl) Via.refl ?_
      refine Goes.runS X [(.iconst 3, 1)] (S' := [.int (3 : Int32), .int (5 : Int32)]) (pc' := 293) rfl ?_
      refine Goes.if2 X (pc' := 304) (o := 11) (cd := .ne) (fun _ => ?_) (fun q => absurd q (by decide))
      refine Goes.runS X [(.aload_n 0, 1)] (S' := [.ref d]) (pc' := 305) rfl ?_
      refine Goes.getF X 0 0 rfl rfl (wd hw 16 rfl) Via.refl ?_
      refine Goes.runS X [(.iconst 5, 1)] (S' := [.int (5 : Int32), .int (5 : Int32)]) (pc' := 309) rfl ?_
      refine Goes.if2 X (pc' := 345) (o := 36) (cd := .ne) (fun q => absurd q (by decide)) (fun _ => ?_)
      refine Goes.runS X [(.aload_n 0, 1), (.dup, 1)] (S' := [.ref d, .ref d]) (pc' := 314) rfl ?_
      refine Goes.getF X 0 3 rfl rfl (wd hw 128 rfl) Via.refl ?_
      refine Goes.runS X [(.lconst 1, 1), (.ladd, 1)] (S' := [.long (pl + (1 : Int64)), .ref d]) (pc' := 319) rfl ?_
      refine Goes.putF X 0 3 rfl rfl (wd hw 128 rfl) Via.refl (Or.inl (wd hw 129 rfl)) (wd hw 8 rfl) (own_hn rfl rfl nd_Dig) (ty := .long) pf_4 rfl rfl ?_
      refine Goes.runS X [(.aload_n 0, 1)] (S' := [.ref d]) (pc' := 323) rfl ?_
      refine Goes.getF X 0 2 rfl rfl (wd hw 93 rfl) Via.refl ?_
      refine Goes.runS X [(.lconst 0, 1), (.lcmp, 1)] (S' := [.int (oLcmp sg1 (0 : Int64))]) (pc' := 328) rfl ?_
      refine Goes.if1 X (pc' := 337) (o := 9) (cd := .gt) (fun q13 => ?_) (fun q13 => ?_)
      · refine Goes.runS X [(.aload_n 0, 1), (.iload_n 1, 1)] (S' := [.int c', .ref d]) (pc' := 339) rfl ?_
        refine Goes.callP X 0 0 [0, 1, 2] [3] rfl (D_sg l Z a0 h0 hw cs hCS hcs d u h' b (.int 5) (.int en) (.long (pl + (1 : Int64))) (.int ne) (.int ed) (.long ex) sg1 k1 hk1' bs1 hbs1 c' hc) (wd hw 89 rfl) (wd hw 90 rfl) (wd hw 91 rfl) (nf_inst X (wd hw 8 rfl)) (wd hw 9 rfl) (wd hw 92 rfl) pd_y_14 rfl (st := []) rfl rfl (G := [(h', o_SB (hv) (.int 0) (.int 0))]) rfl rfl ?_
        rintro _ _ ⟨rfl, rfl⟩
        refine Goes.goto X (o := 89) (pc' := 431) ?_
        refine Goes.sub [0, 1, 2, 3] (G := [(d, o_Dig (.int (5 : Int32)) (.int en) (.long (sg1 + 1)) (.long (pl + (1 : Int64))) (.int ne) (.int ed) (.long ex) (.ref u) (.ref h') (.int 0) (.int 0)), (u, o_SB (.ref b) (.int 0) (.int (Int32.ofNat (k1 + 1)))), (b, oBs (bs1.set k1 (.int (oI2b c')))), (h', o_SB (hv) (.int 0) (.int 0))]) rfl ?_
        exact E dg mk 5 (sg1 + 1) (pl + 1) ne ed ex (k1 + 1) _ (by omega) (by rw [List.length_set]; exact hbs1) hst hen
      · refine Goes.runS X [(.iload_n 1, 1), (.bipush 48, 2)] (S' := [.int (48 : Int32), .int c']) (pc' := 334) rfl ?_
        refine Goes.if2 X (pc' := 431) (o := 97) (cd := .eq) (fun q14 => ?_) (fun q14 => ?_)
        · exact E dg mk 5 sg1 (pl + 1) ne ed ex k1 bs1 (by omega) hbs1 hst hen
        · refine Goes.runS X [(.aload_n 0, 1), (.iload_n 1, 1)] (S' := [.int c', .ref d]) (pc' := 339) rfl ?_
          refine Goes.callP X 0 0 [0, 1, 2] [3] rfl (D_sg l Z a0 h0 hw cs hCS hcs d u h' b (.int 5) (.int en) (.long (pl + (1 : Int64))) (.int ne) (.int ed) (.long ex) sg1 k1 hk1' bs1 hbs1 c' hc) (wd hw 89 rfl) (wd hw 90 rfl) (wd hw 91 rfl) (nf_inst X (wd hw 8 rfl)) (wd hw 9 rfl) (wd hw 92 rfl) pd_y_14 rfl (st := []) rfl rfl (G := [(h', o_SB (hv) (.int 0) (.int 0))]) rfl rfl ?_
          rintro _ _ ⟨rfl, rfl⟩
          refine Goes.goto X (o := 89) (pc' := 431) ?_
          refine Goes.sub [0, 1, 2, 3] (G := [(d, o_Dig (.int (5 : Int32)) (.int en) (.long (sg1 + 1)) (.long (pl + (1 : Int64))) (.int ne) (.int ed) (.long ex) (.ref u) (.ref h') (.int 0) (.int 0)), (u, o_SB (.ref b) (.int 0) (.int (Int32.ofNat (k1 + 1)))), (b, oBs (bs1.set k1 (.int (oI2b c')))), (h', o_SB (hv) (.int 0) (.int 0))]) rfl ?_
          exact E dg mk 5 (sg1 + 1) (pl + 1) ne ed ex (k1 + 1) _ (by omega) (by rw [List.length_set]; exact hbs1) hst hen
    · show Goes _ _ _ _ _ _ _ _ _ _ _ _ _ _ _ _ _ _ [(d, o_Dig (.int st) (.int en) (.long sg1) (.long pl) (.int ne) (.int ed) (.long ex) (.ref u) (.ref h') (.int 0) (.int 0)), (u, o_SB (.ref b) (.int 0) (.int (Int32.ofNat k1))), (b, oBs bs1), (h', o_SB (hv) (.int 0) (.int 0))] 0 0 (mkF m 282 #[.val (.ref d), .val (.int c'), .val (.int dg), .val (.int mk), .val (.int (6 : Int32))] [])
      refine Goes.runS X [(.aload_n 0, 1), (.iload 4, 2)] (S' := [.int (6 : Int32), .ref d]) (pc' := 285) rfl ?_
      refine Goes.putF X 0 0 rfl rfl (wd hw 16 rfl) Via.refl (Or.inl (wd hw 17 rfl)) (wd hw 8 rfl) (own_hn rfl rfl nd_Dig) (ty := .int) pf_2 rfl rfl ?_
      refine Goes.runS X [(.aload_n 0, 1)] (S' := [.ref d]) (pc' := 289) rfl ?_
      refine Goes.getF X 0 0 rfl rfl (wd hw 16 rfl) Via.refl ?_
      refine Goes.runS X [(.iconst 3, 1)] (S' := [.int (3 : Int32), .int (6 : Int32)]) (pc' := 293) rfl ?_
      refine Goes.if2 X (pc' := 304) (o := 11) (cd := .ne) (fun _ => ?_) (fun q => absurd q (by decide))
      refine Goes.runS X [(.aload_n 0, 1)] (S' := [.ref d]) (pc' := 305) rfl ?_
      refine Goes.getF X 0 0 rfl rfl (wd hw 16 rfl) Via.refl ?_
      refine Goes.runS X [(.iconst 5, 1)] (S' := [.int (5 : Int32), .int (6 : Int32)]) (pc' := 309) rfl ?_
      refine Goes.if2 X (pc' := 345) (o := 36) (cd := .ne) (fun _ => ?_) (fun q => absurd q (by decide))
      refine Goes.runS X [(.aload_n 0, 1)] (S' := [.ref d]) (pc' := 346) rfl ?_
      refine Goes.getF X 0 0 rfl rfl (wd hw 16 rfl) Via.refl ?_
      refine Goes.runS X [(.bipush 7, 2)] (S' := [.int (7 : Int32), .int (6 : Int32)]) (pc' := 351) rfl ?_
      refine Goes.if2 X (pc' := 372) (o := 21) (cd := .ne) (fun _ => ?_) (fun q => absurd q (by decide))
      refine Goes.runS X [(.aload_n 0, 1)] (S' := [.ref d]) (pc' := 373) rfl ?_
      refine Goes.getF X 0 0 rfl rfl (wd hw 16 rfl) Via.refl ?_
      refine Goes.runS X [(.bipush 8, 2)] (S' := [.int (8 : Int32), .int (6 : Int32)]) (pc' := 378) rfl ?_
      refine Goes.if2 X (pc' := 431) (o := 53) (cd := .ne) (fun _ => ?_) (fun q => absurd q (by decide))
      exact E dg mk 6 sg1 pl ne ed ex k1 bs1 (by omega) hbs1 hst hen
    · show Goes _ _ _ _ _ _ _ _ _ _ _ _ _ _ _ _ _ _ [(d, o_Dig (.int st) (.int en) (.long sg1) (.long pl) (.int ne) (.int ed) (.long ex) (.ref u) (.ref h') (.int 0) (.int 0)), (u, o_SB (.ref b) (.int 0) (.int (Int32.ofNat k1))), (b, oBs bs1), (h', o_SB (hv) (.int 0) (.int 0))] 0 0 (mkF m 282 #[.val (.ref d), .val (.int c'), .val (.int dg), .val (.int mk), .val (.int (7 : Int32))] [])
      refine Goes.runS X [(.aload_n 0, 1), (.iload 4, 2)] (S' := [.int (7 : Int32), .ref d]) (pc' := 285) rfl ?_
      refine Goes.putF X 0 0 rfl rfl (wd hw 16 rfl) Via.refl (Or.inl (wd hw 17 rfl)) (wd hw 8 rfl) (own_hn rfl rfl nd_Dig) (ty := .int) pf_2 rfl rfl ?_
      refine Goes.runS X [(.aload_n 0, 1)] (S' := [.ref d]) (pc' := 289) rfl ?_
      refine Goes.getF X 0 0 rfl rfl (wd hw 16 rfl) Via.refl ?_
      refine Goes.runS X [(.iconst 3, 1)] (S' := [.int (3 : Int32), .int (7 : Int32)]) (pc' := 293) rfl ?_
      refine Goes.if2 X (pc' := 304) (o := 11) (cd := .ne) (fun _ => ?_) (fun q => absurd q (by decide))
      refine Goes.runS X [(.aload_n 0, 1)] (S' := [.ref d]) (pc' := 305) rfl ?_
      refine Goes.getF X 0 0 rfl rfl (wd hw 16 rfl) Via.refl ?_
      refine Goes.runS X [(.iconst 5, 1)] (S' := [.int (5 : Int32), .int (7 : Int32)]) (pc' := 309) rfl ?_
      refine Goes.if2 X (pc' := 345) (o := 36) (cd := .ne) (fun _ => ?_) (fun q => absurd q (by decide))
      refine Goes.runS X [(.aload_n 0, 1)] (S' := [.ref d]) (pc' := 346) rfl ?_
      refine Goes.getF X 0 0 rfl rfl (wd hw 16 rfl) Via.refl ?_
      refine Goes.runS X [(.bipush 7, 2)] (S' := [.int (7 : Int32), .int (7 : Int32)]) (pc' := 351) rfl ?_
      refine Goes.if2 X (pc' := 372) (o := 21) (cd := .ne) (fun q => absurd q (by decide)) (fun _ => ?_)
      refine Goes.runS X [(.aload_n 0, 1), (.iload_n 1, 1), (.bipush 45, 2)] (S' := [.int (45 : Int32), .int c', .ref d]) (pc' := 358) rfl ?_
      refine Goes.if2 X (pc' := 365) (o := 7) (cd := .ne) (fun q15 => ?_) (fun q15 => ?_)
      · refine Goes.runS X [(.iconst 0, 1)] (S' := [.int (0 : Int32), .ref d]) (pc' := 366) rfl ?_
        refine Goes.putF X 0 4 rfl rfl (wd hw 121 rfl) Via.refl (Or.inl (wd hw 122 rfl)) (wd hw 8 rfl) (own_hn rfl rfl nd_Dig) (ty := .boolean) pf_5 rfl rfl ?_
        refine Goes.goto X (o := 62) (pc' := 431) ?_
        exact E dg mk 7 sg1 pl _ ed ex k1 bs1 (by omega) hbs1 hst hen
      · refine Goes.runS X [(.iconst 1, 1)] (S' := [.int (1 : Int32), .ref d]) (pc' := 362) rfl ?_
        refine Goes.goto X (o := 4) (pc' := 366) ?_
        refine Goes.putF X 0 4 rfl rfl (wd hw 121 rfl) Via.refl (Or.inl (wd hw 122 rfl)) (wd hw 8 rfl) (own_hn rfl rfl nd_Dig) (ty := .boolean) pf_5 rfl rfl ?_
        refine Goes.goto X (o := 62) (pc' := 431) ?_
        exact E dg mk 7 sg1 pl _ ed ex k1 bs1 (by omega) hbs1 hst hen
    · show Goes _ _ _ _ _ _ _ _ _ _ _ _ _ _ _ _ _ _ [(d, o_Dig (.int st) (.int en) (.long sg1) (.long pl) (.int ne) (.int ed) (.long ex) (.ref u) (.ref h') (.int 0) (.int 0)), (u, o_SB (.ref b) (.int 0) (.int (Int32.ofNat k1))), (b, oBs bs1), (h', o_SB (hv) (.int 0) (.int 0))] 0 0 (mkF m 282 #[.val (.ref d), .val (.int c'), .val (.int dg), .val (.int mk), .val (.int (8 : Int32))] [])
      refine Goes.runS X [(.aload_n 0, 1), (.iload 4, 2)] (S' := [.int (8 : Int32), .ref d]) (pc' := 285) rfl ?_
      refine Goes.putF X 0 0 rfl rfl (wd hw 16 rfl) Via.refl (Or.inl (wd hw 17 rfl)) (wd hw 8 rfl) (own_hn rfl rfl nd_Dig) (ty := .int) pf_2 rfl rfl ?_
      refine Goes.runS X [(.aload_n 0, 1)] (S' := [.ref d]) (pc' := 289) rfl ?_
      refine Goes.getF X 0 0 rfl rfl (wd hw 16 rfl) Via.refl ?_
      refine Goes.runS X [(.iconst 3, 1)] (S' := [.int (3 : Int32), .int (8 : Int32)]) (pc' := 293) rfl ?_
      refine Goes.if2 X (pc' := 304) (o := 11) (cd := .ne) (fun _ => ?_) (fun q => absurd q (by decide))
      refine Goes.runS X [(.aload_n 0, 1)] (S' := [.ref d]) (pc' := 305) rfl ?_
      refine Goes.getF X 0 0 rfl rfl (wd hw 16 rfl) Via.refl ?_
      refine Goes.runS X [(.iconst 5, 1)] (S' := [.int (5 : Int32), .int (8 : Int32)]) (pc' := 309) rfl ?_
      refine Goes.if2 X (pc' := 345) (o := 36) (cd := .ne) (fun _ => ?_) (fun q => absurd q (by decide))
      refine Goes.runS X [(.aload_n 0, 1)] (S' := [.ref d]) (pc' := 346) rfl ?_
      refine Goes.getF X 0 0 rfl rfl (wd hw 16 rfl) Via.refl ?_
      refine Goes.runS X [(.bipush 7, 2)] (S' := [.int (7 : Int32), .int (8 : Int32)]) (pc' := 351) rfl ?_
      refine Goes.if2 X (pc' := 372) (o := 21) (cd := .ne) (fun _ => ?_) (fun q => absurd q (by decide))
      refine Goes.runS X [(.aload_n 0, 1)] (S' := [.ref d]) (pc' := 373) rfl ?_
      refine Goes.getF X 0 0 rfl rfl (wd hw 16 rfl) Via.refl ?_
      refine Goes.runS X [(.bipush 8, 2)] (S' := [.int (8 : Int32), .int (8 : Int32)]) (pc' := 378) rfl ?_
      refine Goes.if2 X (pc' := 431) (o := 53) (cd := .ne) (fun q => absurd q (by decide)) (fun _ => ?_)
      refine Goes.runS X [(.aload_n 0, 1)] (S' := [.ref d]) (pc' := 382) rfl ?_
      refine Goes.getF X 0 5 rfl rfl (wd hw 123 rfl) Via.refl ?_
      refine Goes.if1 X (pc' := 394) (o := 9) (cd := .gt) (fun q16 => ?_) (fun q16 => ?_)
      · refine Goes.runS X [(.aload_n 0, 1), (.dup, 1)] (S' := [.ref d, .ref d]) (pc' := 396) rfl ?_
        refine Goes.getF X 0 5 rfl rfl (wd hw 123 rfl) Via.refl ?_
        refine Goes.runS X [(.iconst 1, 1), (.iadd, 1)] (S' := [.int (ed + (1 : Int32)), .ref d]) (pc' := 401) rfl ?_
        refine Goes.putF X 0 5 rfl rfl (wd hw 123 rfl) Via.refl (Or.inl (wd hw 124 rfl)) (wd hw 8 rfl) (own_hn rfl rfl nd_Dig) (ty := .int) pf_2 rfl rfl ?_
        refine Goes.runS X [(.aload_n 0, 1)] (S' := [.ref d]) (pc' := 405) rfl ?_
        refine Goes.getF X 0 5 rfl rfl (wd hw 123 rfl) Via.refl ?_
        refine Goes.runS X [(.bipush 18, 2)] (S' := [.int (18 : Int32), .int (ed + (1 : Int32))]) (pc' := 410) rfl ?_
        refine Goes.if2 X (pc' := 431) (o := 21) (cd := .gt) (fun q17 => ?_) (fun q17 => ?_)
        · exact E dg mk 8 sg1 pl ne (ed + 1) ex k1 bs1 (by omega) hbs1 hst hen
        · refine Goes.runS X [(.aload_n 0, 1)] (S' := [.ref d]) (pc' := 414) rfl ?_
          refine Goes.ldcJ X (wd hw 125 rfl) ?_
          refine Goes.runS X [(.aload_n 0, 1)] (S' := [.ref d, .long (10 : Int64), .ref d]) (pc' := 418) rfl ?_
          refine Goes.getF X 0 6 rfl rfl (wd hw 126 rfl) Via.refl ?_
          refine Goes.runS X [(.lmul, 1), (.iload_n 1, 1), (.bipush 48, 2), (.isub, 1), (.i2l, 1), (.ladd, 1)] (S' := [.long (((10 : Int64) * ex) + ((c' - (48 : Int32))).toInt64), .ref d]) (pc' := 428) rfl ?_
          refine Goes.putF X 0 6 rfl rfl (wd hw 126 rfl) Via.refl (Or.inl (wd hw 127 rfl)) (wd hw 8 rfl) (own_hn rfl rfl nd_Dig) (ty := .long) pf_4 rfl rfl ?_
          exact E dg mk 8 sg1 pl ne (ed + 1) _ k1 bs1 (by omega) hbs1 hst hen
      · refine Goes.runS X [(.iload_n 1, 1), (.bipush 48, 2)] (S' := [.int (48 : Int32), .int c']) (pc' := 391) rfl ?_
        refine Goes.if2 X (pc' := 431) (o := 40) (cd := .eq) (fun q18 => ?_) (fun q18 => ?_)
        · exact E dg mk 8 sg1 pl ne ed ex k1 bs1 (by omega) hbs1 hst hen
        · refine Goes.runS X [(.aload_n 0, 1), (.dup, 1)] (S' := [.ref d, .ref d]) (pc' := 396) rfl ?_
          refine Goes.getF X 0 5 rfl rfl (wd hw 123 rfl) Via.refl ?_
          refine Goes.runS X [(.iconst 1, 1), (.iadd, 1)] (S' := [.int (ed + (1 : Int32)), .ref d]) (pc' := 401) rfl ?_
          refine Goes.putF X 0 5 rfl rfl (wd hw 123 rfl) Via.refl (Or.inl (wd hw 124 rfl)) (wd hw 8 rfl) (own_hn rfl rfl nd_Dig) (ty := .int) pf_2 rfl rfl ?_
          refine Goes.runS X [(.aload_n 0, 1)] (S' := [.ref d]) (pc' := 405) rfl ?_
          refine Goes.getF X 0 5 rfl rfl (wd hw 123 rfl) Via.refl ?_
          refine Goes.runS X [(.bipush 18, 2)] (S' := [.int (18 : Int32), .int (ed + (1 : Int32))]) (pc' := 410) rfl ?_
          refine Goes.if2 X (pc' := 431) (o := 21) (cd := .gt) (fun q19 => ?_) (fun q19 => ?_)
          · exact E dg mk 8 sg1 pl ne (ed + 1) ex k1 bs1 (by omega) hbs1 hst hen
          · refine Goes.runS X [(.aload_n 0, 1)] (S' := [.ref d]) (pc' := 414) rfl ?_
            refine Goes.ldcJ X (wd hw 125 rfl) ?_
            refine Goes.runS X [(.aload_n 0, 1)] (S' := [.ref d, .long (10 : Int64), .ref d]) (pc' := 418) rfl ?_
            refine Goes.getF X 0 6 rfl rfl (wd hw 126 rfl) Via.refl ?_
            refine Goes.runS X [(.lmul, 1), (.iload_n 1, 1), (.bipush 48, 2), (.isub, 1), (.i2l, 1), (.ladd, 1)] (S' := [.long (((10 : Int64) * ex) + ((c' - (48 : Int32))).toInt64), .ref d]) (pc' := 428) rfl ?_
            refine Goes.putF X 0 6 rfl rfl (wd hw 126 rfl) Via.refl (Or.inl (wd hw 127 rfl)) (wd hw 8 rfl) (own_hn rfl rfl nd_Dig) (ty := .long) pf_4 rfl rfl ?_
            exact E dg mk 8 sg1 pl ne (ed + 1) _ k1 bs1 (by omega) hbs1 hst hen
  have S : ∀ (dg mk nx : Int32), own_next st c' = nx → Goes p l e ({ frames := 4, cells := 0, slots := 0, locals := 53 } : Room) s m args below meth c Z a0 h0 h ([(d, o_Dig (.int st) (.int en) (.long sig) (.long pl) (.int ne) (.int ed) (.long ex) (.ref u) (.ref h') (.int 0) (.int 0)), (u, o_SB (.ref b) (.int 0) (.int (Int32.ofNat k))), (b, oBs bs), (h', o_SB (hv) (.int 0) (.int 0))].map (·.1)) ({ frames := 4, cells := 0, slots := 0, locals := 53 } : Room).cells ({ frames := 4, cells := 0, slots := 0, locals := 53 } : Room).slots (own_addQ d u h' b hv (own_st st c') (own_en en st c') k) [(d, o_Dig (.int st) (.int en) (.long sig) (.long pl) (.int ne) (.int ed) (.long ex) (.ref u) (.ref h') (.int 0) (.int 0)), (u, o_SB (.ref b) (.int 0) (.int (Int32.ofNat k))), (b, oBs bs), (h', o_SB (hv) (.int 0) (.int 0))] 0 0 (mkF m 246 #[.val (.ref d), .val (.int c'), .val (.int dg), .val (.int mk), .unset] [.int nx]) := by
    intro dg mk nx hnx
    refine Goes.run X [(.istore 4, 2), (.iload 4, 2), (.bipush 9, 2)] (L' := #[.val (.ref d), .val (.int c'), .val (.int dg), .val (.int mk), .val (.int nx)]) (S' := [.int (9 : Int32), .int nx]) (pc' := 252) rfl ?_
    refine Goes.if2 X (pc' := 262) (o := 10) (cd := .ne) (fun q20 => ?_) (fun q20 => ?_)
    · have h21 : ¬ nx = 9 := by simpa [if_icmp.holds] using q20
      have hst : own_st st c' = nx := by unfold own_st; rw [hnx, if_neg h21]
      have hen : own_en en st c' = en := by unfold own_en; rw [hnx, if_neg h21]
      have hx8 : nx = 1 ∨ nx = 2 ∨ nx = 3 ∨ nx = 4 ∨ nx = 5 ∨ nx = 6 ∨ nx = 7 ∨ nx = 8 := own_18 hnx h21
      refine Goes.runS X [(.aload_n 0, 1)] (S' := [.ref d]) (pc' := 263) rfl ?_
      refine Goes.getF X 0 0 rfl rfl (wd hw 16 rfl) Via.refl ?_
      refine Goes.runS X [(.iconst 2, 1)] (S' := [.int (2 : Int32), .int st]) (pc' := 267) rfl ?_
      refine Goes.if2 X (pc' := 282) (o := 15) (cd := .ne) (fun q22 => ?_) (fun q22 => ?_)
      · have h23 : ¬ st = 2 := by simpa [if_icmp.holds] using q22
        exact M dg mk nx sig k bs (by omega) hbs hx8 hst hen
      · have h24 : st = 2 := by simpa [if_icmp.holds] using q22
        refine Goes.runS X [(.iload 4, 2), (.iconst 3, 1)] (S' := [.int (3 : Int32), .int nx]) (pc' := 273) rfl ?_
        refine Goes.if2 X (pc' := 282) (o := 9) (cd := .ne) (fun q25 => ?_) (fun q25 => ?_)
        · exact M dg mk nx sig k bs (by omega) hbs hx8 hst hen
        · refine Goes.runS X [(.aload_n 0, 1), (.bipush 48, 2)] (S' := [.int (48 : Int32), .ref d]) (pc' := 279) rfl ?_
          refine Goes.callP X 0 0 [0, 1, 2] [3] rfl (D_sg l Z a0 h0 hw cs hCS hcs d u h' b (.int st) (.int en) (.long pl) (.int ne) (.int ed) (.long ex) sig k hk16 bs hbs 48 (by decide)) (wd hw 89 rfl) (wd hw 90 rfl) (wd hw 91 rfl) (nf_inst X (wd hw 8 rfl)) (wd hw 9 rfl) (wd hw 92 rfl) pd_y_14 rfl (st := []) rfl rfl (G := [(h', o_SB (hv) (.int 0) (.int 0))]) rfl rfl ?_
          rintro _ _ ⟨rfl, rfl⟩
          refine Goes.sub [0, 1, 2, 3] (G := [(d, o_Dig (.int st) (.int en) (.long (sig + 1)) (.long pl) (.int ne) (.int ed) (.long ex) (.ref u) (.ref h') (.int 0) (.int 0)), (u, o_SB (.ref b) (.int 0) (.int (Int32.ofNat (k + 1)))), (b, oBs (bs.set k (.int (oI2b 48)))), (h', o_SB (hv) (.int 0) (.int 0))]) rfl ?_
          exact M dg mk nx (sig + 1) (k + 1) _ (by omega) (by rw [List.length_set]; exact hbs) hx8 hst hen
    · have h26 : nx = 9 := by simpa [if_icmp.holds] using q20
      have hst : own_st st c' = st := by unfold own_st; rw [hnx, if_pos h26]
      have hen : own_en en st c' = 1 := by unfold own_en; rw [hnx, if_pos h26]
      refine Goes.runS X [(.aload_n 0, 1), (.iconst 1, 1)] (S' := [.int (1 : Int32), .ref d]) (pc' := 257) rfl ?_
      refine Goes.putF X 0 1 rfl rfl (wd hw 51 rfl) Via.refl (Or.inl (wd hw 52 rfl)) (wd hw 8 rfl) (own_hn rfl rfl nd_Dig) (ty := .boolean) pf_5 rfl rfl ?_
      refine Goes.runS X [(.iconst 0, 1)] (S' := [.int (0 : Int32)]) (pc' := 261) rfl ?_
      refine Goes.retI X (by simp) rfl ?_
      exact ⟨0, sig, pl, ne, ed, ex, k, bs, rfl, by omega, hbs, by rw [hst, hen] <;> rfl⟩
  refine Goes.runS X [(.iload_n 1, 1)] (S' := [.int c']) (pc' := 1) rfl ?_
  refine Goes.callSN X 0 [] [0, 1, 2, 3] (D_isd l Z a0 h0 hw c') (wd hw 61 rfl) (wd hw 62 rfl) (wd hw 63 rfl) (wd hw 64 rfl) pd_y_7 rfl (st := []) rfl rfl (G := [(d, o_Dig (.int st) (.int en) (.long sig) (.long pl) (.int ne) (.int ed) (.long ex) (.ref u) (.ref h') (.int 0) (.int 0)), (u, o_SB (.ref b) (.int 0) (.int (Int32.ofNat k))), (b, oBs bs), (h', o_SB (hv) (.int 0) (.int 0))]) rfl rfl ?_
  rintro _ _ ⟨rfl, rfl⟩
  refine Goes.run X [(.istore_n 2, 1), (.iload_n 1, 1), (.bipush 101, 2)] (L' := #[.val (.ref d), .val (.int c'), .val (.int (own_dig c')), .unset, .unset]) (S' := [.int (101 : Int32), .int c']) (pc' := 8) rfl ?_
  refine Goes.if2 X (pc' := 17) (o := 9) (cd := .eq) (fun q27 => ?_) (fun q27 => ?_)
  · have h28 : c' = 101 := by simpa [if_icmp.holds] using q27
    refine Goes.runS X [(.iconst 1, 1)] (S' := [.int (1 : Int32)]) (pc' := 18) rfl ?_
    refine Goes.goto X (o := 4) (pc' := 22) ?_
    refine Goes.run X [(.istore_n 3, 1), (.aload_n 0, 1)] (L' := #[.val (.ref d), .val (.int c'), .val (.int (own_dig c')), .val (.int (1 : Int32)), .unset]) (S' := [.ref d]) (pc' := 24) rfl ?_
    refine Goes.getF X 0 0 rfl rfl (wd hw 16 rfl) Via.refl ?_
    rcases hok with rfl | rfl | rfl | rfl | rfl | rfl | rfl | rfl | rfl
    · show Goes _ _ _ _ _ _ _ _ _ _ _ _ _ _ _ _ _ _ [(d, o_Dig (.int (0 : Int32)) (.int en) (.long sig) (.long pl) (.int ne) (.int ed) (.long ex) (.ref u) (.ref h') (.int 0) (.int 0)), (u, o_SB (.ref b) (.int 0) (.int (Int32.ofNat k))), (b, oBs bs), (h', o_SB (hv) (.int 0) (.int 0))] 0 0 (mkF m 27 #[.val (.ref d), .val (.int c'), .val (.int (own_dig c')), .val (.int (1 : Int32)), .unset] [.int (0 : Int32)])
      refine Goes.tsw X (o := 49) (pc' := 76) (len := 49) (dflt := 217) (low := 0) (high := 8) (offs := #[49, 82, 105, 105, 137, 150, 172, 203, 203]) (by decide) (by decide) ?_
      show Goes _ _ _ _ _ _ _ _ _ _ _ _ _ _ _ _ _ _ [(d, o_Dig (.int (0 : Int32)) (.int en) (.long sig) (.long pl) (.int ne) (.int ed) (.long ex) (.ref u) (.ref h') (.int 0) (.int 0)), (u, o_SB (.ref b) (.int 0) (.int (Int32.ofNat k))), (b, oBs bs), (h', o_SB (hv) (.int 0) (.int 0))] 0 0 (mkF m 76 #[.val (.ref d), .val (.int c'), .val (.int (own_dig c')), .val (.int (1 : Int32)), .unset] [])
      refine Goes.runS X [(.iload_n 1, 1), (.bipush 45, 2)] (S' := [.int (45 : Int32), .int c']) (pc' := 79) rfl ?_
      refine Goes.if2 X (pc' := 86) (o := 7) (cd := .ne) (fun q29 => ?_) (fun q29 => ?_)
      · have h30 : ¬ c' = (45 : Int32) := by simpa [if_icmp.holds] using q29
        refine Goes.runS X [(.iload_n 1, 1), (.bipush 48, 2)] (S' := [.int (48 : Int32), .int c']) (pc' := 89) rfl ?_
        refine Goes.if2 X (pc' := 96) (o := 7) (cd := .ne) (fun q31 => ?_) (fun q31 => ?_)
        · have h32 : ¬ c' = (48 : Int32) := by simpa [if_icmp.holds] using q31
          refine Goes.runS X [(.iload_n 2, 1)] (S' := [.int (own_dig c')]) (pc' := 97) rfl ?_
          refine Goes.if1 X (pc' := 104) (o := 7) (cd := .eq) (fun q33 => ?_) (fun q33 => ?_)
          · have h34 : (own_dig c') = 0 := by simpa [ifCond.holds] using q33
            refine Goes.runS X [(.bipush 9, 2)] (S' := [.int (9 : Int32)]) (pc' := 106) rfl ?_
            refine Goes.goto X (o := 140) (pc' := 246) ?_
            exact S _ _ _ (by clear hw hCS E M S X; simp_all [own_next, own_d0])
          · have h35 : ¬ (own_dig c') = 0 := by simpa [ifCond.holds] using q33
            refine Goes.runS X [(.iconst 3, 1)] (S' := [.int (3 : Int32)]) (pc' := 101) rfl ?_
            refine Goes.goto X (o := 145) (pc' := 246) ?_
            exact S _ _ _ (by clear hw hCS E M S X; simp_all [own_next, own_d0])
        · have h36 : c' = (48 : Int32) := by simpa [if_icmp.holds] using q31
          refine Goes.runS X [(.iconst 2, 1)] (S' := [.int (2 : Int32)]) (pc' := 93) rfl ?_
          refine Goes.goto X (o := 153) (pc' := 246) ?_
          exact S _ _ _ (by clear hw hCS E M S X; simp_all [own_next, own_d0])
      · have h37 : c' = (45 : Int32) := by simpa [if_icmp.holds] using q29
        refine Goes.runS X [(.iconst 1, 1)] (S' := [.int (1 : Int32)]) (pc' := 83) rfl ?_
        refine Goes.goto X (o := 163) (pc' := 246) ?_
        exact S _ _ _ (by clear hw hCS E M S X; simp_all [own_next, own_d0])
    · show Goes _ _ _ _ _ _ _ _ _ _ _ _ _ _ _ _ _ _ [(d, o_Dig (.int (1 : Int32)) (.int en) (.long sig) (.long pl) (.int ne) (.int ed) (.long ex) (.ref u) (.ref h') (.int 0) (.int 0)), (u, o_SB (.ref b) (.int 0) (.int (Int32.ofNat k))), (b, oBs bs), (h', o_SB (hv) (.int 0) (.int 0))] 0 0 (mkF m 27 #[.val (.ref d), .val (.int c'), .val (.int (own_dig c')), .val (.int (1 : Int32)), .unset] [.int (1 : Int32)])
      refine Goes.tsw X (o := 82) (pc' := 109) (len := 49) (dflt := 217) (low := 0) (high := 8) (offs := #[49, 82, 105, 105, 137, 150, 172, 203, 203]) (by decide) (by decide) ?_
      show Goes _ _ _ _ _ _ _ _ _ _ _ _ _ _ _ _ _ _ [(d, o_Dig (.int (1 : Int32)) (.int en) (.long sig) (.long pl) (.int ne) (.int ed) (.long ex) (.ref u) (.ref h') (.int 0) (.int 0)), (u, o_SB (.ref b) (.int 0) (.int (Int32.ofNat k))), (b, oBs bs), (h', o_SB (hv) (.int 0) (.int 0))] 0 0 (mkF m 109 #[.val (.ref d), .val (.int c'), .val (.int (own_dig c')), .val (.int (1 : Int32)), .unset] [])
      refine Goes.runS X [(.iload_n 1, 1), (.bipush 48, 2)] (S' := [.int (48 : Int32), .int c']) (pc' := 112) rfl ?_
      refine Goes.if2 X (pc' := 119) (o := 7) (cd := .ne) (fun q38 => ?_) (fun q38 => ?_)
      · have h39 : ¬ c' = (48 : Int32) := by simpa [if_icmp.holds] using q38
        refine Goes.runS X [(.iload_n 2, 1)] (S' := [.int (own_dig c')]) (pc' := 120) rfl ?_
        refine Goes.if1 X (pc' := 127) (o := 7) (cd := .eq) (fun q40 => ?_) (fun q40 => ?_)
        · have h41 : (own_dig c') = 0 := by simpa [ifCond.holds] using q40
          refine Goes.runS X [(.bipush 9, 2)] (S' := [.int (9 : Int32)]) (pc' := 129) rfl ?_
          refine Goes.goto X (o := 117) (pc' := 246) ?_
          exact S _ _ _ (by clear hw hCS E M S X; simp_all [own_next, own_d0])
        · have h42 : ¬ (own_dig c') = 0 := by simpa [ifCond.holds] using q40
          refine Goes.runS X [(.iconst 3, 1)] (S' := [.int (3 : Int32)]) (pc' := 124) rfl ?_
          refine Goes.goto X (o := 122) (pc' := 246) ?_
          exact S _ _ _ (by clear hw hCS E M S X; simp_all [own_next, own_d0])
      · have h43 : c' = (48 : Int32) := by simpa [if_icmp.holds] using q38
        refine Goes.runS X [(.iconst 2, 1)] (S' := [.int (2 : Int32)]) (pc' := 116) rfl ?_
        refine Goes.goto X (o := 130) (pc' := 246) ?_
        exact S _ _ _ (by clear hw hCS E M S X; simp_all [own_next, own_d0])
    · show Goes _ _ _ _ _ _ _ _ _ _ _ _ _ _ _ _ _ _ [(d, o_Dig (.int (2 : Int32)) (.int en) (.long sig) (.long pl) (.int ne) (.int ed) (.long ex) (.ref u) (.ref h') (.int 0) (.int 0)), (u, o_SB (.ref b) (.int 0) (.int (Int32.ofNat k))), (b, oBs bs), (h', o_SB (hv) (.int 0) (.int 0))] 0 0 (mkF m 27 #[.val (.ref d), .val (.int c'), .val (.int (own_dig c')), .val (.int (1 : Int32)), .unset] [.int (2 : Int32)])
      refine Goes.tsw X (o := 105) (pc' := 132) (len := 49) (dflt := 217) (low := 0) (high := 8) (offs := #[49, 82, 105, 105, 137, 150, 172, 203, 203]) (by decide) (by decide) ?_
      show Goes _ _ _ _ _ _ _ _ _ _ _ _ _ _ _ _ _ _ [(d, o_Dig (.int (2 : Int32)) (.int en) (.long sig) (.long pl) (.int ne) (.int ed) (.long ex) (.ref u) (.ref h') (.int 0) (.int 0)), (u, o_SB (.ref b) (.int 0) (.int (Int32.ofNat k))), (b, oBs bs), (h', o_SB (hv) (.int 0) (.int 0))] 0 0 (mkF m 132 #[.val (.ref d), .val (.int c'), .val (.int (own_dig c')), .val (.int (1 : Int32)), .unset] [])
      refine Goes.runS X [(.iload_n 2, 1)] (S' := [.int (own_dig c')]) (pc' := 133) rfl ?_
      refine Goes.if1 X (pc' := 140) (o := 7) (cd := .eq) (fun q44 => ?_) (fun q44 => ?_)
      · have h45 : (own_dig c') = 0 := by simpa [ifCond.holds] using q44
        refine Goes.runS X [(.iload_n 1, 1), (.bipush 46, 2)] (S' := [.int (46 : Int32), .int c']) (pc' := 143) rfl ?_
        refine Goes.if2 X (pc' := 150) (o := 7) (cd := .ne) (fun q46 => ?_) (fun q46 => ?_)
        · have h47 : ¬ c' = (46 : Int32) := by simpa [if_icmp.holds] using q46
          refine Goes.runS X [(.iload_n 3, 1)] (S' := [.int (1 : Int32)]) (pc' := 151) rfl ?_
          refine Goes.if1 X (pc' := 159) (o := 8) (cd := .eq) (fun q => absurd q (by decide)) (fun _ => ?_)
          refine Goes.runS X [(.bipush 6, 2)] (S' := [.int (6 : Int32)]) (pc' := 156) rfl ?_
          refine Goes.goto X (o := 90) (pc' := 246) ?_
          exact S _ _ _ (by clear hw hCS E M S X; simp_all [own_next, own_d0])
        · have h48 : c' = (46 : Int32) := by simpa [if_icmp.holds] using q46
          refine Goes.runS X [(.iconst 4, 1)] (S' := [.int (4 : Int32)]) (pc' := 147) rfl ?_
          refine Goes.goto X (o := 99) (pc' := 246) ?_
          exact S _ _ _ (by clear hw hCS E M S X; simp_all [own_next, own_d0])
      · have h49 : ¬ (own_dig c') = 0 := by simpa [ifCond.holds] using q44
        refine Goes.runS X [(.iconst 3, 1)] (S' := [.int (3 : Int32)]) (pc' := 137) rfl ?_
        refine Goes.goto X (o := 109) (pc' := 246) ?_
        exact S _ _ _ (by clear hw hCS E M S X; simp_all [own_next, own_d0])
    · show Goes _ _ _ _ _ _ _ _ _ _ _ _ _ _ _ _ _ _ [(d, o_Dig (.int (3 : Int32)) (.int en) (.long sig) (.long pl) (.int ne) (.int ed) (.long ex) (.ref u) (.ref h') (.int 0) (.int 0)), (u, o_SB (.ref b) (.int 0) (.int (Int32.ofNat k))), (b, oBs bs), (h', o_SB (hv) (.int 0) (.int 0))] 0 0 (mkF m 27 #[.val (.ref d), .val (.int c'), .val (.int (own_dig c')), .val (.int (1 : Int32)), .unset] [.int (3 : Int32)])
      refine Goes.tsw X (o := 105) (pc' := 132) (len := 49) (dflt := 217) (low := 0) (high := 8) (offs := #[49, 82, 105, 105, 137, 150, 172, 203, 203]) (by decide) (by decide) ?_
      show Goes _ _ _ _ _ _ _ _ _ _ _ _ _ _ _ _ _ _ [(d, o_Dig (.int (3 : Int32)) (.int en) (.long sig) (.long pl) (.int ne) (.int ed) (.long ex) (.ref u) (.ref h') (.int 0) (.int 0)), (u, o_SB (.ref b) (.int 0) (.int (Int32.ofNat k))), (b, oBs bs), (h', o_SB (hv) (.int 0) (.int 0))] 0 0 (mkF m 132 #[.val (.ref d), .val (.int c'), .val (.int (own_dig c')), .val (.int (1 : Int32)), .unset] [])
      refine Goes.runS X [(.iload_n 2, 1)] (S' := [.int (own_dig c')]) (pc' := 133) rfl ?_
      refine Goes.if1 X (pc' := 140) (o := 7) (cd := .eq) (fun q50 => ?_) (fun q50 => ?_)
      · have h51 : (own_dig c') = 0 := by simpa [ifCond.holds] using q50
        refine Goes.runS X [(.iload_n 1, 1), (.bipush 46, 2)] (S' := [.int (46 : Int32), .int c']) (pc' := 143) rfl ?_
        refine Goes.if2 X (pc' := 150) (o := 7) (cd := .ne) (fun q52 => ?_) (fun q52 => ?_)
        · have h53 : ¬ c' = (46 : Int32) := by simpa [if_icmp.holds] using q52
          refine Goes.runS X [(.iload_n 3, 1)] (S' := [.int (1 : Int32)]) (pc' := 151) rfl ?_
          refine Goes.if1 X (pc' := 159) (o := 8) (cd := .eq) (fun q => absurd q (by decide)) (fun _ => ?_)
          refine Goes.runS X [(.bipush 6, 2)] (S' := [.int (6 : Int32)]) (pc' := 156) rfl ?_
          refine Goes.goto X (o := 90) (pc' := 246) ?_
          exact S _ _ _ (by clear hw hCS E M S X; simp_all [own_next, own_d0])
        · have h54 : c' = (46 : Int32) := by simpa [if_icmp.holds] using q52
          refine Goes.runS X [(.iconst 4, 1)] (S' := [.int (4 : Int32)]) (pc' := 147) rfl ?_
          refine Goes.goto X (o := 99) (pc' := 246) ?_
          exact S _ _ _ (by clear hw hCS E M S X; simp_all [own_next, own_d0])
      · have h55 : ¬ (own_dig c') = 0 := by simpa [ifCond.holds] using q50
        refine Goes.runS X [(.iconst 3, 1)] (S' := [.int (3 : Int32)]) (pc' := 137) rfl ?_
        refine Goes.goto X (o := 109) (pc' := 246) ?_
        exact S _ _ _ (by clear hw hCS E M S X; simp_all [own_next, own_d0])
    · show Goes _ _ _ _ _ _ _ _ _ _ _ _ _ _ _ _ _ _ [(d, o_Dig (.int (4 : Int32)) (.int en) (.long sig) (.long pl) (.int ne) (.int ed) (.long ex) (.ref u) (.ref h') (.int 0) (.int 0)), (u, o_SB (.ref b) (.int 0) (.int (Int32.ofNat k))), (b, oBs bs), (h', o_SB (hv) (.int 0) (.int 0))] 0 0 (mkF m 27 #[.val (.ref d), .val (.int c'), .val (.int (own_dig c')), .val (.int (1 : Int32)), .unset] [.int (4 : Int32)])
      refine Goes.tsw X (o := 137) (pc' := 164) (len := 49) (dflt := 217) (low := 0) (high := 8) (offs := #[49, 82, 105, 105, 137, 150, 172, 203, 203]) (by decide) (by decide) ?_
      show Goes _ _ _ _ _ _ _ _ _ _ _ _ _ _ _ _ _ _ [(d, o_Dig (.int (4 : Int32)) (.int en) (.long sig) (.long pl) (.int ne) (.int ed) (.long ex) (.ref u) (.ref h') (.int 0) (.int 0)), (u, o_SB (.ref b) (.int 0) (.int (Int32.ofNat k))), (b, oBs bs), (h', o_SB (hv) (.int 0) (.int 0))] 0 0 (mkF m 164 #[.val (.ref d), .val (.int c'), .val (.int (own_dig c')), .val (.int (1 : Int32)), .unset] [])
      refine Goes.runS X [(.iload_n 2, 1)] (S' := [.int (own_dig c')]) (pc' := 165) rfl ?_
      refine Goes.if1 X (pc' := 172) (o := 7) (cd := .eq) (fun q56 => ?_) (fun q56 => ?_)
      · have h57 : (own_dig c') = 0 := by simpa [ifCond.holds] using q56
        refine Goes.runS X [(.bipush 9, 2)] (S' := [.int (9 : Int32)]) (pc' := 174) rfl ?_
        refine Goes.goto X (o := 72) (pc' := 246) ?_
        exact S _ _ _ (by clear hw hCS E M S X; simp_all [own_next, own_d0])
      · have h58 : ¬ (own_dig c') = 0 := by simpa [ifCond.holds] using q56
        refine Goes.runS X [(.iconst 5, 1)] (S' := [.int (5 : Int32)]) (pc' := 169) rfl ?_
        refine Goes.goto X (o := 77) (pc' := 246) ?_
        exact S _ _ _ (by clear hw hCS E M S X; simp_all [own_next, own_d0])
    · show Goes _ _ _ _ _ _ _ _ _ _ _ _ _ _ _ _ _ _ [(d, o_Dig (.int (5 : Int32)) (.int en) (.long sig) (.long pl) (.int ne) (.int ed) (.long ex) (.ref u) (.ref h') (.int 0) (.int 0)), (u, o_SB (.ref b) (.int 0) (.int (Int32.ofNat k))), (b, oBs bs), (h', o_SB (hv) (.int 0) (.int 0))] 0 0 (mkF m 27 #[.val (.ref d), .val (.int c'), .val (.int (own_dig c')), .val (.int (1 : Int32)), .unset] [.int (5 : Int32)])
      refine Goes.tsw X (o := 150) (pc' := 177) (len := 49) (dflt := 217) (low := 0) (high := 8) (offs := #[49, 82, 105, 105, 137, 150, 172, 203, 203]) (by decide) (by decide) ?_
      show Goes _ _ _ _ _ _ _ _ _ _ _ _ _ _ _ _ _ _ [(d, o_Dig (.int (5 : Int32)) (.int en) (.long sig) (.long pl) (.int ne) (.int ed) (.long ex) (.ref u) (.ref h') (.int 0) (.int 0)), (u, o_SB (.ref b) (.int 0) (.int (Int32.ofNat k))), (b, oBs bs), (h', o_SB (hv) (.int 0) (.int 0))] 0 0 (mkF m 177 #[.val (.ref d), .val (.int c'), .val (.int (own_dig c')), .val (.int (1 : Int32)), .unset] [])
      refine Goes.runS X [(.iload_n 2, 1)] (S' := [.int (own_dig c')]) (pc' := 178) rfl ?_
      refine Goes.if1 X (pc' := 185) (o := 7) (cd := .eq) (fun q59 => ?_) (fun q59 => ?_)
      · have h60 : (own_dig c') = 0 := by simpa [ifCond.holds] using q59
        refine Goes.runS X [(.iload_n 3, 1)] (S' := [.int (1 : Int32)]) (pc' := 186) rfl ?_
        refine Goes.if1 X (pc' := 194) (o := 8) (cd := .eq) (fun q => absurd q (by decide)) (fun _ => ?_)
        refine Goes.runS X [(.bipush 6, 2)] (S' := [.int (6 : Int32)]) (pc' := 191) rfl ?_
        refine Goes.goto X (o := 55) (pc' := 246) ?_
        exact S _ _ _ (by clear hw hCS E M S X; simp_all [own_next, own_d0])
      · have h61 : ¬ (own_dig c') = 0 := by simpa [ifCond.holds] using q59
        refine Goes.runS X [(.iconst 5, 1)] (S' := [.int (5 : Int32)]) (pc' := 182) rfl ?_
        refine Goes.goto X (o := 64) (pc' := 246) ?_
        exact S _ _ _ (by clear hw hCS E M S X; simp_all [own_next, own_d0])
    · show Goes _ _ _ _ _ _ _ _ _ _ _ _ _ _ _ _ _ _ [(d, o_Dig (.int (6 : Int32)) (.int en) (.long sig) (.long pl) (.int ne) (.int ed) (.long ex) (.ref u) (.ref h') (.int 0) (.int 0)), (u, o_SB (.ref b) (.int 0) (.int (Int32.ofNat k))), (b, oBs bs), (h', o_SB (hv) (.int 0) (.int 0))] 0 0 (mkF m 27 #[.val (.ref d), .val (.int c'), .val (.int (own_dig c')), .val (.int (1 : Int32)), .unset] [.int (6 : Int32)])
      refine Goes.tsw X (o := 172) (pc' := 199) (len := 49) (dflt := 217) (low := 0) (high := 8) (offs := #[49, 82, 105, 105, 137, 150, 172, 203, 203]) (by decide) (by decide) ?_
      show Goes _ _ _ _ _ _ _ _ _ _ _ _ _ _ _ _ _ _ [(d, o_Dig (.int (6 : Int32)) (.int en) (.long sig) (.long pl) (.int ne) (.int ed) (.long ex) (.ref u) (.ref h') (.int 0) (.int 0)), (u, o_SB (.ref b) (.int 0) (.int (Int32.ofNat k))), (b, oBs bs), (h', o_SB (hv) (.int 0) (.int 0))] 0 0 (mkF m 199 #[.val (.ref d), .val (.int c'), .val (.int (own_dig c')), .val (.int (1 : Int32)), .unset] [])
      refine Goes.runS X [(.iload_n 1, 1), (.bipush 45, 2)] (S' := [.int (45 : Int32), .int c']) (pc' := 202) rfl ?_
      refine Goes.if2 X (pc' := 211) (o := 9) (cd := .eq) (fun q62 => ?_) (fun q62 => ?_)
      · have h63 : c' = (45 : Int32) := by simpa [if_icmp.holds] using q62
        refine Goes.runS X [(.bipush 7, 2)] (S' := [.int (7 : Int32)]) (pc' := 213) rfl ?_
        refine Goes.goto X (o := 33) (pc' := 246) ?_
        exact S _ _ _ (by clear hw hCS E M S X; simp_all [own_next, own_d0])
      · have h64 : ¬ c' = (45 : Int32) := by simpa [if_icmp.holds] using q62
        refine Goes.runS X [(.iload_n 1, 1), (.bipush 43, 2)] (S' := [.int (43 : Int32), .int c']) (pc' := 208) rfl ?_
        refine Goes.if2 X (pc' := 216) (o := 8) (cd := .ne) (fun q65 => ?_) (fun q65 => ?_)
        · have h66 : ¬ c' = (43 : Int32) := by simpa [if_icmp.holds] using q65
          refine Goes.runS X [(.iload_n 2, 1)] (S' := [.int (own_dig c')]) (pc' := 217) rfl ?_
          refine Goes.if1 X (pc' := 225) (o := 8) (cd := .eq) (fun q67 => ?_) (fun q67 => ?_)
          · have h68 : (own_dig c') = 0 := by simpa [ifCond.holds] using q67
            refine Goes.runS X [(.bipush 9, 2)] (S' := [.int (9 : Int32)]) (pc' := 227) rfl ?_
            refine Goes.goto X (o := 19) (pc' := 246) ?_
            exact S _ _ _ (by clear hw hCS E M S X; simp_all [own_next, own_d0])
          · have h69 : ¬ (own_dig c') = 0 := by simpa [ifCond.holds] using q67
            refine Goes.runS X [(.bipush 8, 2)] (S' := [.int (8 : Int32)]) (pc' := 222) rfl ?_
            refine Goes.goto X (o := 24) (pc' := 246) ?_
            exact S _ _ _ (by clear hw hCS E M S X; simp_all [own_next, own_d0])
        · have h70 : c' = (43 : Int32) := by simpa [if_icmp.holds] using q65
          refine Goes.runS X [(.bipush 7, 2)] (S' := [.int (7 : Int32)]) (pc' := 213) rfl ?_
          refine Goes.goto X (o := 33) (pc' := 246) ?_
          exact S _ _ _ (by clear hw hCS E M S X; simp_all [own_next, own_d0])
    · show Goes _ _ _ _ _ _ _ _ _ _ _ _ _ _ _ _ _ _ [(d, o_Dig (.int (7 : Int32)) (.int en) (.long sig) (.long pl) (.int ne) (.int ed) (.long ex) (.ref u) (.ref h') (.int 0) (.int 0)), (u, o_SB (.ref b) (.int 0) (.int (Int32.ofNat k))), (b, oBs bs), (h', o_SB (hv) (.int 0) (.int 0))] 0 0 (mkF m 27 #[.val (.ref d), .val (.int c'), .val (.int (own_dig c')), .val (.int (1 : Int32)), .unset] [.int (7 : Int32)])
      refine Goes.tsw X (o := 203) (pc' := 230) (len := 49) (dflt := 217) (low := 0) (high := 8) (offs := #[49, 82, 105, 105, 137, 150, 172, 203, 203]) (by decide) (by decide) ?_
      show Goes _ _ _ _ _ _ _ _ _ _ _ _ _ _ _ _ _ _ [(d, o_Dig (.int (7 : Int32)) (.int en) (.long sig) (.long pl) (.int ne) (.int ed) (.long ex) (.ref u) (.ref h') (.int 0) (.int 0)), (u, o_SB (.ref b) (.int 0) (.int (Int32.ofNat k))), (b, oBs bs), (h', o_SB (hv) (.int 0) (.int 0))] 0 0 (mkF m 230 #[.val (.ref d), .val (.int c'), .val (.int (own_dig c')), .val (.int (1 : Int32)), .unset] [])
      refine Goes.runS X [(.iload_n 2, 1)] (S' := [.int (own_dig c')]) (pc' := 231) rfl ?_
      refine Goes.if1 X (pc' := 239) (o := 8) (cd := .eq) (fun q71 => ?_) (fun q71 => ?_)
      · have h72 : (own_dig c') = 0 := by simpa [ifCond.holds] using q71
        refine Goes.runS X [(.bipush 9, 2)] (S' := [.int (9 : Int32)]) (pc' := 241) rfl ?_
        refine Goes.goto X (o := 5) (pc' := 246) ?_
        exact S _ _ _ (by clear hw hCS E M S X; simp_all [own_next, own_d0])
      · have h73 : ¬ (own_dig c') = 0 := by simpa [ifCond.holds] using q71
        refine Goes.runS X [(.bipush 8, 2)] (S' := [.int (8 : Int32)]) (pc' := 236) rfl ?_
        refine Goes.goto X (o := 10) (pc' := 246) ?_
        exact S _ _ _ (by clear hw hCS E M S X; simp_all [own_next, own_d0])
    · show Goes _ _ _ _ _ _ _ _ _ _ _ _ _ _ _ _ _ _ [(d, o_Dig (.int (8 : Int32)) (.int en) (.long sig) (.long pl) (.int ne) (.int ed) (.long ex) (.ref u) (.ref h') (.int 0) (.int 0)), (u, o_SB (.ref b) (.int 0) (.int (Int32.ofNat k))), (b, oBs bs), (h', o_SB (hv) (.int 0) (.int 0))] 0 0 (mkF m 27 #[.val (.ref d), .val (.int c'), .val (.int (own_dig c')), .val (.int (1 : Int32)), .unset] [.int (8 : Int32)])
      refine Goes.tsw X (o := 203) (pc' := 230) (len := 49) (dflt := 217) (low := 0) (high := 8) (offs := #[49, 82, 105, 105, 137, 150, 172, 203, 203]) (by decide) (by decide) ?_
      show Goes _ _ _ _ _ _ _ _ _ _ _ _ _ _ _ _ _ _ [(d, o_Dig (.int (8 : Int32)) (.int en) (.long sig) (.long pl) (.int ne) (.int ed) (.long ex) (.ref u) (.ref h') (.int 0) (.int 0)), (u, o_SB (.ref b) (.int 0) (.int (Int32.ofNat k))), (b, oBs bs), (h', o_SB (hv) (.int 0) (.int 0))] 0 0 (mkF m 230 #[.val (.ref d), .val (.int c'), .val (.int (own_dig c')), .val (.int (1 : Int32)), .unset] [])
      refine Goes.runS X [(.iload_n 2, 1)] (S' := [.int (own_dig c')]) (pc' := 231) rfl ?_
      refine Goes.if1 X (pc' := 239) (o := 8) (cd := .eq) (fun q74 => ?_) (fun q74 => ?_)
      · have h75 : (own_dig c') = 0 := by simpa [ifCond.holds] using q74
        refine Goes.runS X [(.bipush 9, 2)] (S' := [.int (9 : Int32)]) (pc' := 241) rfl ?_
        refine Goes.goto X (o := 5) (pc' := 246) ?_
        exact S _ _ _ (by clear hw hCS E M S X; simp_all [own_next, own_d0])
      · have h76 : ¬ (own_dig c') = 0 := by simpa [ifCond.holds] using q74
        refine Goes.runS X [(.bipush 8, 2)] (S' := [.int (8 : Int32)]) (pc' := 236) rfl ?_
        refine Goes.goto X (o := 10) (pc' := 246) ?_
        exact S _ _ _ (by clear hw hCS E M S X; simp_all [own_next, own_d0])
  · have h77 : ¬ c' = 101 := by simpa [if_icmp.holds] using q27
    refine Goes.runS X [(.iload_n 1, 1), (.bipush 69, 2)] (S' := [.int (69 : Int32), .int c']) (pc' := 14) rfl ?_
    refine Goes.if2 X (pc' := 21) (o := 7) (cd := .ne) (fun q78 => ?_) (fun q78 => ?_)
    · have h79 : ¬ c' = 69 := by simpa [if_icmp.holds] using q78
      refine Goes.run X [(.iconst 0, 1), (.istore_n 3, 1), (.aload_n 0, 1)] (L' := #[.val (.ref d), .val (.int c'), .val (.int (own_dig c')), .val (.int (0 : Int32)), .unset]) (S' := [.ref d]) (pc' := 24) rfl ?_
      refine Goes.getF X 0 0 rfl rfl (wd hw 16 rfl) Via.refl ?_
      rcases hok with rfl | rfl | rfl | rfl | rfl | rfl | rfl | rfl | rfl
      · show Goes _ _ _ _ _ _ _ _ _ _ _ _ _ _ _ _ _ _ [(d, o_Dig (.int (0 : Int32)) (.int en) (.long sig) (.long pl) (.int ne) (.int ed) (.long ex) (.ref u) (.ref h') (.int 0) (.int 0)), (u, o_SB (.ref b) (.int 0) (.int (Int32.ofNat k))), (b, oBs bs), (h', o_SB (hv) (.int 0) (.int 0))] 0 0 (mkF m 27 #[.val (.ref d), .val (.int c'), .val (.int (own_dig c')), .val (.int (0 : Int32)), .unset] [.int (0 : Int32)])
        refine Goes.tsw X (o := 49) (pc' := 76) (len := 49) (dflt := 217) (low := 0) (high := 8) (offs := #[49, 82, 105, 105, 137, 150, 172, 203, 203]) (by decide) (by decide) ?_
        show Goes _ _ _ _ _ _ _ _ _ _ _ _ _ _ _ _ _ _ [(d, o_Dig (.int (0 : Int32)) (.int en) (.long sig) (.long pl) (.int ne) (.int ed) (.long ex) (.ref u) (.ref h') (.int 0) (.int 0)), (u, o_SB (.ref b) (.int 0) (.int (Int32.ofNat k))), (b, oBs bs), (h', o_SB (hv) (.int 0) (.int 0))] 0 0 (mkF m 76 #[.val (.ref d), .val (.int c'), .val (.int (own_dig c')), .val (.int (0 : Int32)), .unset] [])
        refine Goes.runS X [(.iload_n 1, 1), (.bipush 45, 2)] (S' := [.int (45 : Int32), .int c']) (pc' := 79) rfl ?_
        refine Goes.if2 X (pc' := 86) (o := 7) (cd := .ne) (fun q80 => ?_) (fun q80 => ?_)
        · have h81 : ¬ c' = (45 : Int32) := by simpa [if_icmp.holds] using q80
          refine Goes.runS X [(.iload_n 1, 1), (.bipush 48, 2)] (S' := [.int (48 : Int32), .int c']) (pc' := 89) rfl ?_
          refine Goes.if2 X (pc' := 96) (o := 7) (cd := .ne) (fun q82 => ?_) (fun q82 => ?_)
          · have h83 : ¬ c' = (48 : Int32) := by simpa [if_icmp.holds] using q82
            refine Goes.runS X [(.iload_n 2, 1)] (S' := [.int (own_dig c')]) (pc' := 97) rfl ?_
            refine Goes.if1 X (pc' := 104) (o := 7) (cd := .eq) (fun q84 => ?_) (fun q84 => ?_)
            · have h85 : (own_dig c') = 0 := by simpa [ifCond.holds] using q84
              refine Goes.runS X [(.bipush 9, 2)] (S' := [.int (9 : Int32)]) (pc' := 106) rfl ?_
              refine Goes.goto X (o := 140) (pc' := 246) ?_
              exact S _ _ _ (by clear hw hCS E M S X; simp_all [own_next, own_d0])
            · have h86 : ¬ (own_dig c') = 0 := by simpa [ifCond.holds] using q84
              refine Goes.runS X [(.iconst 3, 1)] (S' := [.int (3 : Int32)]) (pc' := 101) rfl ?_
              refine Goes.goto X (o := 145) (pc' := 246) ?_
              exact S _ _ _ (by clear hw hCS E M S X; simp_all [own_next, own_d0])
          · have h87 : c' = (48 : Int32) := by simpa [if_icmp.holds] using q82
            refine Goes.runS X [(.iconst 2, 1)] (S' := [.int (2 : Int32)]) (pc' := 93) rfl ?_
            refine Goes.goto X (o := 153) (pc' := 246) ?_
            exact S _ _ _ (by clear hw hCS E M S X; simp_all [own_next, own_d0])
        · have h88 : c' = (45 : Int32) := by simpa [if_icmp.holds] using q80
          refine Goes.runS X [(.iconst 1, 1)] (S' := [.int (1 : Int32)]) (pc' := 83) rfl ?_
          refine Goes.goto X (o := 163) (pc' := 246) ?_
          exact S _ _ _ (by clear hw hCS E M S X; simp_all [own_next, own_d0])
      · show Goes _ _ _ _ _ _ _ _ _ _ _ _ _ _ _ _ _ _ [(d, o_Dig (.int (1 : Int32)) (.int en) (.long sig) (.long pl) (.int ne) (.int ed) (.long ex) (.ref u) (.ref h') (.int 0) (.int 0)), (u, o_SB (.ref b) (.int 0) (.int (Int32.ofNat k))), (b, oBs bs), (h', o_SB (hv) (.int 0) (.int 0))] 0 0 (mkF m 27 #[.val (.ref d), .val (.int c'), .val (.int (own_dig c')), .val (.int (0 : Int32)), .unset] [.int (1 : Int32)])
        refine Goes.tsw X (o := 82) (pc' := 109) (len := 49) (dflt := 217) (low := 0) (high := 8) (offs := #[49, 82, 105, 105, 137, 150, 172, 203, 203]) (by decide) (by decide) ?_
        show Goes _ _ _ _ _ _ _ _ _ _ _ _ _ _ _ _ _ _ [(d, o_Dig (.int (1 : Int32)) (.int en) (.long sig) (.long pl) (.int ne) (.int ed) (.long ex) (.ref u) (.ref h') (.int 0) (.int 0)), (u, o_SB (.ref b) (.int 0) (.int (Int32.ofNat k))), (b, oBs bs), (h', o_SB (hv) (.int 0) (.int 0))] 0 0 (mkF m 109 #[.val (.ref d), .val (.int c'), .val (.int (own_dig c')), .val (.int (0 : Int32)), .unset] [])
        refine Goes.runS X [(.iload_n 1, 1), (.bipush 48, 2)] (S' := [.int (48 : Int32), .int c']) (pc' := 112) rfl ?_
        refine Goes.if2 X (pc' := 119) (o := 7) (cd := .ne) (fun q89 => ?_) (fun q89 => ?_)
        · have h90 : ¬ c' = (48 : Int32) := by simpa [if_icmp.holds] using q89
          refine Goes.runS X [(.iload_n 2, 1)] (S' := [.int (own_dig c')]) (pc' := 120) rfl ?_
          refine Goes.if1 X (pc' := 127) (o := 7) (cd := .eq) (fun q91 => ?_) (fun q91 => ?_)
          · have h92 : (own_dig c') = 0 := by simpa [ifCond.holds] using q91
            refine Goes.runS X [(.bipush 9, 2)] (S' := [.int (9 : Int32)]) (pc' := 129) rfl ?_
            refine Goes.goto X (o := 117) (pc' := 246) ?_
            exact S _ _ _ (by clear hw hCS E M S X; simp_all [own_next, own_d0])
          · have h93 : ¬ (own_dig c') = 0 := by simpa [ifCond.holds] using q91
            refine Goes.runS X [(.iconst 3, 1)] (S' := [.int (3 : Int32)]) (pc' := 124) rfl ?_
            refine Goes.goto X (o := 122) (pc' := 246) ?_
            exact S _ _ _ (by clear hw hCS E M S X; simp_all [own_next, own_d0])
        · have h94 : c' = (48 : Int32) := by simpa [if_icmp.holds] using q89
          refine Goes.runS X [(.iconst 2, 1)] (S' := [.int (2 : Int32)]) (pc' := 116) rfl ?_
          refine Goes.goto X (o := 130) (pc' := 246) ?_
          exact S _ _ _ (by clear hw hCS E M S X; simp_all [own_next, own_d0])
      · show Goes _ _ _ _ _ _ _ _ _ _ _ _ _ _ _ _ _ _ [(d, o_Dig (.int (2 : Int32)) (.int en) (.long sig) (.long pl) (.int ne) (.int ed) (.long ex) (.ref u) (.ref h') (.int 0) (.int 0)), (u, o_SB (.ref b) (.int 0) (.int (Int32.ofNat k))), (b, oBs bs), (h', o_SB (hv) (.int 0) (.int 0))] 0 0 (mkF m 27 #[.val (.ref d), .val (.int c'), .val (.int (own_dig c')), .val (.int (0 : Int32)), .unset] [.int (2 : Int32)])
        refine Goes.tsw X (o := 105) (pc' := 132) (len := 49) (dflt := 217) (low := 0) (high := 8) (offs := #[49, 82, 105, 105, 137, 150, 172, 203, 203]) (by decide) (by decide) ?_
        show Goes _ _ _ _ _ _ _ _ _ _ _ _ _ _ _ _ _ _ [(d, o_Dig (.int (2 : Int32)) (.int en) (.long sig) (.long pl) (.int ne) (.int ed) (.long ex) (.ref u) (.ref h') (.int 0) (.int 0)), (u, o_SB (.ref b) (.int 0) (.int (Int32.ofNat k))), (b, oBs bs), (h', o_SB (hv) (.int 0) (.int 0))] 0 0 (mkF m 132 #[.val (.ref d), .val (.int c'), .val (.int (own_dig c')), .val (.int (0 : Int32)), .unset] [])
        refine Goes.runS X [(.iload_n 2, 1)] (S' := [.int (own_dig c')]) (pc' := 133) rfl ?_
        refine Goes.if1 X (pc' := 140) (o := 7) (cd := .eq) (fun q95 => ?_) (fun q95 => ?_)
        · have h96 : (own_dig c') = 0 := by simpa [ifCond.holds] using q95
          refine Goes.runS X [(.iload_n 1, 1), (.bipush 46, 2)] (S' := [.int (46 : Int32), .int c']) (pc' := 143) rfl ?_
          refine Goes.if2 X (pc' := 150) (o := 7) (cd := .ne) (fun q97 => ?_) (fun q97 => ?_)
          · have h98 : ¬ c' = (46 : Int32) := by simpa [if_icmp.holds] using q97
            refine Goes.runS X [(.iload_n 3, 1)] (S' := [.int (0 : Int32)]) (pc' := 151) rfl ?_
            refine Goes.if1 X (pc' := 159) (o := 8) (cd := .eq) (fun _ => ?_) (fun q => absurd q (by decide))
            refine Goes.runS X [(.bipush 9, 2)] (S' := [.int (9 : Int32)]) (pc' := 161) rfl ?_
            refine Goes.goto X (o := 85) (pc' := 246) ?_
            exact S _ _ _ (by clear hw hCS E M S X; simp_all [own_next, own_d0])
          · have h99 : c' = (46 : Int32) := by simpa [if_icmp.holds] using q97
            refine Goes.runS X [(.iconst 4, 1)] (S' := [.int (4 : Int32)]) (pc' := 147) rfl ?_
            refine Goes.goto X (o := 99) (pc' := 246) ?_
            exact S _ _ _ (by clear hw hCS E M S X; simp_all [own_next, own_d0])
        · have h100 : ¬ (own_dig c') = 0 := by simpa [ifCond.holds] using q95
          refine Goes.runS X [(.iconst 3, 1)] (S' := [.int (3 : Int32)]) (pc' := 137) rfl ?_
          refine Goes.goto X (o := 109) (pc' := 246) ?_
          exact S _ _ _ (by clear hw hCS E M S X; simp_all [own_next, own_d0])
      · show Goes _ _ _ _ _ _ _ _ _ _ _ _ _ _ _ _ _ _ [(d, o_Dig (.int (3 : Int32)) (.int en) (.long sig) (.long pl) (.int ne) (.int ed) (.long ex) (.ref u) (.ref h') (.int 0) (.int 0)), (u, o_SB (.ref b) (.int 0) (.int (Int32.ofNat k))), (b, oBs bs), (h', o_SB (hv) (.int 0) (.int 0))] 0 0 (mkF m 27 #[.val (.ref d), .val (.int c'), .val (.int (own_dig c')), .val (.int (0 : Int32)), .unset] [.int (3 : Int32)])
        refine Goes.tsw X (o := 105) (pc' := 132) (len := 49) (dflt := 217) (low := 0) (high := 8) (offs := #[49, 82, 105, 105, 137, 150, 172, 203, 203]) (by decide) (by decide) ?_
        show Goes _ _ _ _ _ _ _ _ _ _ _ _ _ _ _ _ _ _ [(d, o_Dig (.int (3 : Int32)) (.int en) (.long sig) (.long pl) (.int ne) (.int ed) (.long ex) (.ref u) (.ref h') (.int 0) (.int 0)), (u, o_SB (.ref b) (.int 0) (.int (Int32.ofNat k))), (b, oBs bs), (h', o_SB (hv) (.int 0) (.int 0))] 0 0 (mkF m 132 #[.val (.ref d), .val (.int c'), .val (.int (own_dig c')), .val (.int (0 : Int32)), .unset] [])
        refine Goes.runS X [(.iload_n 2, 1)] (S' := [.int (own_dig c')]) (pc' := 133) rfl ?_
        refine Goes.if1 X (pc' := 140) (o := 7) (cd := .eq) (fun q101 => ?_) (fun q101 => ?_)
        · have h102 : (own_dig c') = 0 := by simpa [ifCond.holds] using q101
          refine Goes.runS X [(.iload_n 1, 1), (.bipush 46, 2)] (S' := [.int (46 : Int32), .int c']) (pc' := 143) rfl ?_
          refine Goes.if2 X (pc' := 150) (o := 7) (cd := .ne) (fun q103 => ?_) (fun q103 => ?_)
          · have h104 : ¬ c' = (46 : Int32) := by simpa [if_icmp.holds] using q103
            refine Goes.runS X [(.iload_n 3, 1)] (S' := [.int (0 : Int32)]) (pc' := 151) rfl ?_
            refine Goes.if1 X (pc' := 159) (o := 8) (cd := .eq) (fun _ => ?_) (fun q => absurd q (by decide))
            refine Goes.runS X [(.bipush 9, 2)] (S' := [.int (9 : Int32)]) (pc' := 161) rfl ?_
            refine Goes.goto X (o := 85) (pc' := 246) ?_
            exact S _ _ _ (by clear hw hCS E M S X; simp_all [own_next, own_d0])
          · have h105 : c' = (46 : Int32) := by simpa [if_icmp.holds] using q103
            refine Goes.runS X [(.iconst 4, 1)] (S' := [.int (4 : Int32)]) (pc' := 147) rfl ?_
            refine Goes.goto X (o := 99) (pc' := 246) ?_
            exact S _ _ _ (by clear hw hCS E M S X; simp_all [own_next, own_d0])
        · have h106 : ¬ (own_dig c') = 0 := by simpa [ifCond.holds] using q101
          refine Goes.runS X [(.iconst 3, 1)] (S' := [.int (3 : Int32)]) (pc' := 137) rfl ?_
          refine Goes.goto X (o := 109) (pc' := 246) ?_
          exact S _ _ _ (by clear hw hCS E M S X; simp_all [own_next, own_d0])
      · show Goes _ _ _ _ _ _ _ _ _ _ _ _ _ _ _ _ _ _ [(d, o_Dig (.int (4 : Int32)) (.int en) (.long sig) (.long pl) (.int ne) (.int ed) (.long ex) (.ref u) (.ref h') (.int 0) (.int 0)), (u, o_SB (.ref b) (.int 0) (.int (Int32.ofNat k))), (b, oBs bs), (h', o_SB (hv) (.int 0) (.int 0))] 0 0 (mkF m 27 #[.val (.ref d), .val (.int c'), .val (.int (own_dig c')), .val (.int (0 : Int32)), .unset] [.int (4 : Int32)])
        refine Goes.tsw X (o := 137) (pc' := 164) (len := 49) (dflt := 217) (low := 0) (high := 8) (offs := #[49, 82, 105, 105, 137, 150, 172, 203, 203]) (by decide) (by decide) ?_
        show Goes _ _ _ _ _ _ _ _ _ _ _ _ _ _ _ _ _ _ [(d, o_Dig (.int (4 : Int32)) (.int en) (.long sig) (.long pl) (.int ne) (.int ed) (.long ex) (.ref u) (.ref h') (.int 0) (.int 0)), (u, o_SB (.ref b) (.int 0) (.int (Int32.ofNat k))), (b, oBs bs), (h', o_SB (hv) (.int 0) (.int 0))] 0 0 (mkF m 164 #[.val (.ref d), .val (.int c'), .val (.int (own_dig c')), .val (.int (0 : Int32)), .unset] [])
        refine Goes.runS X [(.iload_n 2, 1)] (S' := [.int (own_dig c')]) (pc' := 165) rfl ?_
        refine Goes.if1 X (pc' := 172) (o := 7) (cd := .eq) (fun q107 => ?_) (fun q107 => ?_)
        · have h108 : (own_dig c') = 0 := by simpa [ifCond.holds] using q107
          refine Goes.runS X [(.bipush 9, 2)] (S' := [.int (9 : Int32)]) (pc' := 174) rfl ?_
          refine Goes.goto X (o := 72) (pc' := 246) ?_
          exact S _ _ _ (by clear hw hCS E M S X; simp_all [own_next, own_d0])
        · have h109 : ¬ (own_dig c') = 0 := by simpa [ifCond.holds] using q107
          refine Goes.runS X [(.iconst 5, 1)] (S' := [.int (5 : Int32)]) (pc' := 169) rfl ?_
          refine Goes.goto X (o := 77) (pc' := 246) ?_
          exact S _ _ _ (by clear hw hCS E M S X; simp_all [own_next, own_d0])
      · show Goes _ _ _ _ _ _ _ _ _ _ _ _ _ _ _ _ _ _ [(d, o_Dig (.int (5 : Int32)) (.int en) (.long sig) (.long pl) (.int ne) (.int ed) (.long ex) (.ref u) (.ref h') (.int 0) (.int 0)), (u, o_SB (.ref b) (.int 0) (.int (Int32.ofNat k))), (b, oBs bs), (h', o_SB (hv) (.int 0) (.int 0))] 0 0 (mkF m 27 #[.val (.ref d), .val (.int c'), .val (.int (own_dig c')), .val (.int (0 : Int32)), .unset] [.int (5 : Int32)])
        refine Goes.tsw X (o := 150) (pc' := 177) (len := 49) (dflt := 217) (low := 0) (high := 8) (offs := #[49, 82, 105, 105, 137, 150, 172, 203, 203]) (by decide) (by decide) ?_
        show Goes _ _ _ _ _ _ _ _ _ _ _ _ _ _ _ _ _ _ [(d, o_Dig (.int (5 : Int32)) (.int en) (.long sig) (.long pl) (.int ne) (.int ed) (.long ex) (.ref u) (.ref h') (.int 0) (.int 0)), (u, o_SB (.ref b) (.int 0) (.int (Int32.ofNat k))), (b, oBs bs), (h', o_SB (hv) (.int 0) (.int 0))] 0 0 (mkF m 177 #[.val (.ref d), .val (.int c'), .val (.int (own_dig c')), .val (.int (0 : Int32)), .unset] [])
        refine Goes.runS X [(.iload_n 2, 1)] (S' := [.int (own_dig c')]) (pc' := 178) rfl ?_
        refine Goes.if1 X (pc' := 185) (o := 7) (cd := .eq) (fun q110 => ?_) (fun q110 => ?_)
        · have h111 : (own_dig c') = 0 := by simpa [ifCond.holds] using q110
          refine Goes.runS X [(.iload_n 3, 1)] (S' := [.int (0 : Int32)]) (pc' := 186) rfl ?_
          refine Goes.if1 X (pc' := 194) (o := 8) (cd := .eq) (fun _ => ?_) (fun q => absurd q (by decide))
          refine Goes.runS X [(.bipush 9, 2)] (S' := [.int (9 : Int32)]) (pc' := 196) rfl ?_
          refine Goes.goto X (o := 50) (pc' := 246) ?_
          exact S _ _ _ (by clear hw hCS E M S X; simp_all [own_next, own_d0])
        · have h112 : ¬ (own_dig c') = 0 := by simpa [ifCond.holds] using q110
          refine Goes.runS X [(.iconst 5, 1)] (S' := [.int (5 : Int32)]) (pc' := 182) rfl ?_
          refine Goes.goto X (o := 64) (pc' := 246) ?_
          exact S _ _ _ (by clear hw hCS E M S X; simp_all [own_next, own_d0])
      · show Goes _ _ _ _ _ _ _ _ _ _ _ _ _ _ _ _ _ _ [(d, o_Dig (.int (6 : Int32)) (.int en) (.long sig) (.long pl) (.int ne) (.int ed) (.long ex) (.ref u) (.ref h') (.int 0) (.int 0)), (u, o_SB (.ref b) (.int 0) (.int (Int32.ofNat k))), (b, oBs bs), (h', o_SB (hv) (.int 0) (.int 0))] 0 0 (mkF m 27 #[.val (.ref d), .val (.int c'), .val (.int (own_dig c')), .val (.int (0 : Int32)), .unset] [.int (6 : Int32)])
        refine Goes.tsw X (o := 172) (pc' := 199) (len := 49) (dflt := 217) (low := 0) (high := 8) (offs := #[49, 82, 105, 105, 137, 150, 172, 203, 203]) (by decide) (by decide) ?_
        show Goes _ _ _ _ _ _ _ _ _ _ _ _ _ _ _ _ _ _ [(d, o_Dig (.int (6 : Int32)) (.int en) (.long sig) (.long pl) (.int ne) (.int ed) (.long ex) (.ref u) (.ref h') (.int 0) (.int 0)), (u, o_SB (.ref b) (.int 0) (.int (Int32.ofNat k))), (b, oBs bs), (h', o_SB (hv) (.int 0) (.int 0))] 0 0 (mkF m 199 #[.val (.ref d), .val (.int c'), .val (.int (own_dig c')), .val (.int (0 : Int32)), .unset] [])
        refine Goes.runS X [(.iload_n 1, 1), (.bipush 45, 2)] (S' := [.int (45 : Int32), .int c']) (pc' := 202) rfl ?_
        refine Goes.if2 X (pc' := 211) (o := 9) (cd := .eq) (fun q113 => ?_) (fun q113 => ?_)
        · have h114 : c' = (45 : Int32) := by simpa [if_icmp.holds] using q113
          refine Goes.runS X [(.bipush 7, 2)] (S' := [.int (7 : Int32)]) (pc' := 213) rfl ?_
          refine Goes.goto X (o := 33) (pc' := 246) ?_
          exact S _ _ _ (by clear hw hCS E M S X; simp_all [own_next, own_d0])
        · have h115 : ¬ c' = (45 : Int32) := by simpa [if_icmp.holds] using q113
          refine Goes.runS X [(.iload_n 1, 1), (.bipush 43, 2)] (S' := [.int (43 : Int32), .int c']) (pc' := 208) rfl ?_
          refine Goes.if2 X (pc' := 216) (o := 8) (cd := .ne) (fun q116 => ?_) (fun q116 => ?_)
          · have h117 : ¬ c' = (43 : Int32) := by simpa [if_icmp.holds] using q116
            refine Goes.runS X [(.iload_n 2, 1)] (S' := [.int (own_dig c')]) (pc' := 217) rfl ?_
            refine Goes.if1 X (pc' := 225) (o := 8) (cd := .eq) (fun q118 => ?_) (fun q118 => ?_)
            · have h119 : (own_dig c') = 0 := by simpa [ifCond.holds] using q118
              refine Goes.runS X [(.bipush 9, 2)] (S' := [.int (9 : Int32)]) (pc' := 227) rfl ?_
              refine Goes.goto X (o := 19) (pc' := 246) ?_
              exact S _ _ _ (by clear hw hCS E M S X; simp_all [own_next, own_d0])
            · have h120 : ¬ (own_dig c') = 0 := by simpa [ifCond.holds] using q118
              refine Goes.runS X [(.bipush 8, 2)] (S' := [.int (8 : Int32)]) (pc' := 222) rfl ?_
              refine Goes.goto X (o := 24) (pc' := 246) ?_
              exact S _ _ _ (by clear hw hCS E M S X; simp_all [own_next, own_d0])
          · have h121 : c' = (43 : Int32) := by simpa [if_icmp.holds] using q116
            refine Goes.runS X [(.bipush 7, 2)] (S' := [.int (7 : Int32)]) (pc' := 213) rfl ?_
            refine Goes.goto X (o := 33) (pc' := 246) ?_
            exact S _ _ _ (by clear hw hCS E M S X; simp_all [own_next, own_d0])
      · show Goes _ _ _ _ _ _ _ _ _ _ _ _ _ _ _ _ _ _ [(d, o_Dig (.int (7 : Int32)) (.int en) (.long sig) (.long pl) (.int ne) (.int ed) (.long ex) (.ref u) (.ref h') (.int 0) (.int 0)), (u, o_SB (.ref b) (.int 0) (.int (Int32.ofNat k))), (b, oBs bs), (h', o_SB (hv) (.int 0) (.int 0))] 0 0 (mkF m 27 #[.val (.ref d), .val (.int c'), .val (.int (own_dig c')), .val (.int (0 : Int32)), .unset] [.int (7 : Int32)])
        refine Goes.tsw X (o := 203) (pc' := 230) (len := 49) (dflt := 217) (low := 0) (high := 8) (offs := #[49, 82, 105, 105, 137, 150, 172, 203, 203]) (by decide) (by decide) ?_
        show Goes _ _ _ _ _ _ _ _ _ _ _ _ _ _ _ _ _ _ [(d, o_Dig (.int (7 : Int32)) (.int en) (.long sig) (.long pl) (.int ne) (.int ed) (.long ex) (.ref u) (.ref h') (.int 0) (.int 0)), (u, o_SB (.ref b) (.int 0) (.int (Int32.ofNat k))), (b, oBs bs), (h', o_SB (hv) (.int 0) (.int 0))] 0 0 (mkF m 230 #[.val (.ref d), .val (.int c'), .val (.int (own_dig c')), .val (.int (0 : Int32)), .unset] [])
        refine Goes.runS X [(.iload_n 2, 1)] (S' := [.int (own_dig c')]) (pc' := 231) rfl ?_
        refine Goes.if1 X (pc' := 239) (o := 8) (cd := .eq) (fun q122 => ?_) (fun q122 => ?_)
        · have h123 : (own_dig c') = 0 := by simpa [ifCond.holds] using q122
          refine Goes.runS X [(.bipush 9, 2)] (S' := [.int (9 : Int32)]) (pc' := 241) rfl ?_
          refine Goes.goto X (o := 5) (pc' := 246) ?_
          exact S _ _ _ (by clear hw hCS E M S X; simp_all [own_next, own_d0])
        · have h124 : ¬ (own_dig c') = 0 := by simpa [ifCond.holds] using q122
          refine Goes.runS X [(.bipush 8, 2)] (S' := [.int (8 : Int32)]) (pc' := 236) rfl ?_
          refine Goes.goto X (o := 10) (pc' := 246) ?_
          exact S _ _ _ (by clear hw hCS E M S X; simp_all [own_next, own_d0])
      · show Goes _ _ _ _ _ _ _ _ _ _ _ _ _ _ _ _ _ _ [(d, o_Dig (.int (8 : Int32)) (.int en) (.long sig) (.long pl) (.int ne) (.int ed) (.long ex) (.ref u) (.ref h') (.int 0) (.int 0)), (u, o_SB (.ref b) (.int 0) (.int (Int32.ofNat k))), (b, oBs bs), (h', o_SB (hv) (.int 0) (.int 0))] 0 0 (mkF m 27 #[.val (.ref d), .val (.int c'), .val (.int (own_dig c')), .val (.int (0 : Int32)), .unset] [.int (8 : Int32)])
        refine Goes.tsw X (o := 203) (pc' := 230) (len := 49) (dflt := 217) (low := 0) (high := 8) (offs := #[49, 82, 105, 105, 137, 150, 172, 203, 203]) (by decide) (by decide) ?_
        show Goes _ _ _ _ _ _ _ _ _ _ _ _ _ _ _ _ _ _ [(d, o_Dig (.int (8 : Int32)) (.int en) (.long sig) (.long pl) (.int ne) (.int ed) (.long ex) (.ref u) (.ref h') (.int 0) (.int 0)), (u, o_SB (.ref b) (.int 0) (.int (Int32.ofNat k))), (b, oBs bs), (h', o_SB (hv) (.int 0) (.int 0))] 0 0 (mkF m 230 #[.val (.ref d), .val (.int c'), .val (.int (own_dig c')), .val (.int (0 : Int32)), .unset] [])
        refine Goes.runS X [(.iload_n 2, 1)] (S' := [.int (own_dig c')]) (pc' := 231) rfl ?_
        refine Goes.if1 X (pc' := 239) (o := 8) (cd := .eq) (fun q125 => ?_) (fun q125 => ?_)
        · have h126 : (own_dig c') = 0 := by simpa [ifCond.holds] using q125
          refine Goes.runS X [(.bipush 9, 2)] (S' := [.int (9 : Int32)]) (pc' := 241) rfl ?_
          refine Goes.goto X (o := 5) (pc' := 246) ?_
          exact S _ _ _ (by clear hw hCS E M S X; simp_all [own_next, own_d0])
        · have h127 : ¬ (own_dig c') = 0 := by simpa [ifCond.holds] using q125
          refine Goes.runS X [(.bipush 8, 2)] (S' := [.int (8 : Int32)]) (pc' := 236) rfl ?_
          refine Goes.goto X (o := 10) (pc' := 246) ?_
          exact S _ _ _ (by clear hw hCS E M S X; simp_all [own_next, own_d0])
    · have h128 : c' = 69 := by simpa [if_icmp.holds] using q78
      refine Goes.runS X [(.iconst 1, 1)] (S' := [.int (1 : Int32)]) (pc' := 18) rfl ?_
      refine Goes.goto X (o := 4) (pc' := 22) ?_
      refine Goes.run X [(.istore_n 3, 1), (.aload_n 0, 1)] (L' := #[.val (.ref d), .val (.int c'), .val (.int (own_dig c')), .val (.int (1 : Int32)), .unset]) (S' := [.ref d]) (pc' := 24) rfl ?_
      refine Goes.getF X 0 0 rfl rfl (wd hw 16 rfl) Via.refl ?_
      rcases hok with rfl | rfl | rfl | rfl | rfl | rfl | rfl | rfl | rfl
      · show Goes _ _ _ _ _ _ _ _ _ _ _ _ _ _ _ _ _ _ [(d, o_Dig (.int (0 : Int32)) (.int en) (.long sig) (.long pl) (.int ne) (.int ed) (.long ex) (.ref u) (.ref h') (.int 0) (.int 0)), (u, o_SB (.ref b) (.int 0) (.int (Int32.ofNat k))), (b, oBs bs), (h', o_SB (hv) (.int 0) (.int 0))] 0 0 (mkF m 27 #[.val (.ref d), .val (.int c'), .val (.int (own_dig c')), .val (.int (1 : Int32)), .unset] [.int (0 : Int32)])
        refine Goes.tsw X (o := 49) (pc' := 76) (len := 49) (dflt := 217) (low := 0) (high := 8) (offs := #[49, 82, 105, 105, 137, 150, 172, 203, 203]) (by decide) (by decide) ?_
        show Goes _ _ _ _ _ _ _ _ _ _ _ _ _ _ _ _ _ _ [(d, o_Dig (.int (0 : Int32)) (.int en) (.long sig) (.long pl) (.int ne) (.int ed) (.long ex) (.ref u) (.ref h') (.int 0) (.int 0)), (u, o_SB (.ref b) (.int 0) (.int (Int32.ofNat k))), (b, oBs bs), (h', o_SB (hv) (.int 0) (.int 0))] 0 0 (mkF m 76 #[.val (.ref d), .val (.int c'), .val (.int (own_dig c')), .val (.int (1 : Int32)), .unset] [])
        refine Goes.runS X [(.iload_n 1, 1), (.bipush 45, 2)] (S' := [.int (45 : Int32), .int c']) (pc' := 79) rfl ?_
        refine Goes.if2 X (pc' := 86) (o := 7) (cd := .ne) (fun q129 => ?_) (fun q129 => ?_)
        · have h130 : ¬ c' = (45 : Int32) := by simpa [if_icmp.holds] using q129
          refine Goes.runS X [(.iload_n 1, 1), (.bipush 48, 2)] (S' := [.int (48 : Int32), .int c']) (pc' := 89) rfl ?_
          refine Goes.if2 X (pc' := 96) (o := 7) (cd := .ne) (fun q131 => ?_) (fun q131 => ?_)
          · have h132 : ¬ c' = (48 : Int32) := by simpa [if_icmp.holds] using q131
            refine Goes.runS X [(.iload_n 2, 1)] (S' := [.int (own_dig c')]) (pc' := 97) rfl ?_
            refine Goes.if1 X (pc' := 104) (o := 7) (cd := .eq) (fun q133 => ?_) (fun q133 => ?_)
            · have h134 : (own_dig c') = 0 := by simpa [ifCond.holds] using q133
              refine Goes.runS X [(.bipush 9, 2)] (S' := [.int (9 : Int32)]) (pc' := 106) rfl ?_
              refine Goes.goto X (o := 140) (pc' := 246) ?_
              exact S _ _ _ (by clear hw hCS E M S X; simp_all [own_next, own_d0])
            · have h135 : ¬ (own_dig c') = 0 := by simpa [ifCond.holds] using q133
              refine Goes.runS X [(.iconst 3, 1)] (S' := [.int (3 : Int32)]) (pc' := 101) rfl ?_
              refine Goes.goto X (o := 145) (pc' := 246) ?_
              exact S _ _ _ (by clear hw hCS E M S X; simp_all [own_next, own_d0])
          · have h136 : c' = (48 : Int32) := by simpa [if_icmp.holds] using q131
            refine Goes.runS X [(.iconst 2, 1)] (S' := [.int (2 : Int32)]) (pc' := 93) rfl ?_
            refine Goes.goto X (o := 153) (pc' := 246) ?_
            exact S _ _ _ (by clear hw hCS E M S X; simp_all [own_next, own_d0])
        · have h137 : c' = (45 : Int32) := by simpa [if_icmp.holds] using q129
          refine Goes.runS X [(.iconst 1, 1)] (S' := [.int (1 : Int32)]) (pc' := 83) rfl ?_
          refine Goes.goto X (o := 163) (pc' := 246) ?_
          exact S _ _ _ (by clear hw hCS E M S X; simp_all [own_next, own_d0])
      · show Goes _ _ _ _ _ _ _ _ _ _ _ _ _ _ _ _ _ _ [(d, o_Dig (.int (1 : Int32)) (.int en) (.long sig) (.long pl) (.int ne) (.int ed) (.long ex) (.ref u) (.ref h') (.int 0) (.int 0)), (u, o_SB (.ref b) (.int 0) (.int (Int32.ofNat k))), (b, oBs bs), (h', o_SB (hv) (.int 0) (.int 0))] 0 0 (mkF m 27 #[.val (.ref d), .val (.int c'), .val (.int (own_dig c')), .val (.int (1 : Int32)), .unset] [.int (1 : Int32)])
        refine Goes.tsw X (o := 82) (pc' := 109) (len := 49) (dflt := 217) (low := 0) (high := 8) (offs := #[49, 82, 105, 105, 137, 150, 172, 203, 203]) (by decide) (by decide) ?_
        show Goes _ _ _ _ _ _ _ _ _ _ _ _ _ _ _ _ _ _ [(d, o_Dig (.int (1 : Int32)) (.int en) (.long sig) (.long pl) (.int ne) (.int ed) (.long ex) (.ref u) (.ref h') (.int 0) (.int 0)), (u, o_SB (.ref b) (.int 0) (.int (Int32.ofNat k))), (b, oBs bs), (h', o_SB (hv) (.int 0) (.int 0))] 0 0 (mkF m 109 #[.val (.ref d), .val (.int c'), .val (.int (own_dig c')), .val (.int (1 : Int32)), .unset] [])
        refine Goes.runS X [(.iload_n 1, 1), (.bipush 48, 2)] (S' := [.int (48 : Int32), .int c']) (pc' := 112) rfl ?_
        refine Goes.if2 X (pc' := 119) (o := 7) (cd := .ne) (fun q138 => ?_) (fun q138 => ?_)
        · have h139 : ¬ c' = (48 : Int32) := by simpa [if_icmp.holds] using q138
          refine Goes.runS X [(.iload_n 2, 1)] (S' := [.int (own_dig c')]) (pc' := 120) rfl ?_
          refine Goes.if1 X (pc' := 127) (o := 7) (cd := .eq) (fun q140 => ?_) (fun q140 => ?_)
          · have h141 : (own_dig c') = 0 := by simpa [ifCond.holds] using q140
            refine Goes.runS X [(.bipush 9, 2)] (S' := [.int (9 : Int32)]) (pc' := 129) rfl ?_
            refine Goes.goto X (o := 117) (pc' := 246) ?_
            exact S _ _ _ (by clear hw hCS E M S X; simp_all [own_next, own_d0])
          · have h142 : ¬ (own_dig c') = 0 := by simpa [ifCond.holds] using q140
            refine Goes.runS X [(.iconst 3, 1)] (S' := [.int (3 : Int32)]) (pc' := 124) rfl ?_
            refine Goes.goto X (o := 122) (pc' := 246) ?_
            exact S _ _ _ (by clear hw hCS E M S X; simp_all [own_next, own_d0])
        · have h143 : c' = (48 : Int32) := by simpa [if_icmp.holds] using q138
          refine Goes.runS X [(.iconst 2, 1)] (S' := [.int (2 : Int32)]) (pc' := 116) rfl ?_
          refine Goes.goto X (o := 130) (pc' := 246) ?_
          exact S _ _ _ (by clear hw hCS E M S X; simp_all [own_next, own_d0])
      · show Goes _ _ _ _ _ _ _ _ _ _ _ _ _ _ _ _ _ _ [(d, o_Dig (.int (2 : Int32)) (.int en) (.long sig) (.long pl) (.int ne) (.int ed) (.long ex) (.ref u) (.ref h') (.int 0) (.int 0)), (u, o_SB (.ref b) (.int 0) (.int (Int32.ofNat k))), (b, oBs bs), (h', o_SB (hv) (.int 0) (.int 0))] 0 0 (mkF m 27 #[.val (.ref d), .val (.int c'), .val (.int (own_dig c')), .val (.int (1 : Int32)), .unset] [.int (2 : Int32)])
        refine Goes.tsw X (o := 105) (pc' := 132) (len := 49) (dflt := 217) (low := 0) (high := 8) (offs := #[49, 82, 105, 105, 137, 150, 172, 203, 203]) (by decide) (by decide) ?_
        show Goes _ _ _ _ _ _ _ _ _ _ _ _ _ _ _ _ _ _ [(d, o_Dig (.int (2 : Int32)) (.int en) (.long sig) (.long pl) (.int ne) (.int ed) (.long ex) (.ref u) (.ref h') (.int 0) (.int 0)), (u, o_SB (.ref b) (.int 0) (.int (Int32.ofNat k))), (b, oBs bs), (h', o_SB (hv) (.int 0) (.int 0))] 0 0 (mkF m 132 #[.val (.ref d), .val (.int c'), .val (.int (own_dig c')), .val (.int (1 : Int32)), .unset] [])
        refine Goes.runS X [(.iload_n 2, 1)] (S' := [.int (own_dig c')]) (pc' := 133) rfl ?_
        refine Goes.if1 X (pc' := 140) (o := 7) (cd := .eq) (fun q144 => ?_) (fun q144 => ?_)
        · have h145 : (own_dig c') = 0 := by simpa [ifCond.holds] using q144
          refine Goes.runS X [(.iload_n 1, 1), (.bipush 46, 2)] (S' := [.int (46 : Int32), .int c']) (pc' := 143) rfl ?_
          refine Goes.if2 X (pc' := 150) (o := 7) (cd := .ne) (fun q146 => ?_) (fun q146 => ?_)
          · have h147 : ¬ c' = (46 : Int32) := by simpa [if_icmp.holds] using q146
            refine Goes.runS X [(.iload_n 3, 1)] (S' := [.int (1 : Int32)]) (pc' := 151) rfl ?_
            refine Goes.if1 X (pc' := 159) (o := 8) (cd := .eq) (fun q => absurd q (by decide)) (fun _ => ?_)
            refine Goes.runS X [(.bipush 6, 2)] (S' := [.int (6 : Int32)]) (pc' := 156) rfl ?_
            refine Goes.goto X (o := 90) (pc' := 246) ?_
            exact S _ _ _ (by clear hw hCS E M S X; simp_all [own_next, own_d0])
          · have h148 : c' = (46 : Int32) := by simpa [if_icmp.holds] using q146
            refine Goes.runS X [(.iconst 4, 1)] (S' := [.int (4 : Int32)]) (pc' := 147) rfl ?_
            refine Goes.goto X (o := 99) (pc' := 246) ?_
            exact S _ _ _ (by clear hw hCS E M S X; simp_all [own_next, own_d0])
        · have h149 : ¬ (own_dig c') = 0 := by simpa [ifCond.holds] using q144
          refine Goes.runS X [(.iconst 3, 1)] (S' := [.int (3 : Int32)]) (pc' := 137) rfl ?_
          refine Goes.goto X (o := 109) (pc' := 246) ?_
          exact S _ _ _ (by clear hw hCS E M S X; simp_all [own_next, own_d0])
      · show Goes _ _ _ _ _ _ _ _ _ _ _ _ _ _ _ _ _ _ [(d, o_Dig (.int (3 : Int32)) (.int en) (.long sig) (.long pl) (.int ne) (.int ed) (.long ex) (.ref u) (.ref h') (.int 0) (.int 0)), (u, o_SB (.ref b) (.int 0) (.int (Int32.ofNat k))), (b, oBs bs), (h', o_SB (hv) (.int 0) (.int 0))] 0 0 (mkF m 27 #[.val (.ref d), .val (.int c'), .val (.int (own_dig c')), .val (.int (1 : Int32)), .unset] [.int (3 : Int32)])
        refine Goes.tsw X (o := 105) (pc' := 132) (len := 49) (dflt := 217) (low := 0) (high := 8) (offs := #[49, 82, 105, 105, 137, 150, 172, 203, 203]) (by decide) (by decide) ?_
        show Goes _ _ _ _ _ _ _ _ _ _ _ _ _ _ _ _ _ _ [(d, o_Dig (.int (3 : Int32)) (.int en) (.long sig) (.long pl) (.int ne) (.int ed) (.long ex) (.ref u) (.ref h') (.int 0) (.int 0)), (u, o_SB (.ref b) (.int 0) (.int (Int32.ofNat k))), (b, oBs bs), (h', o_SB (hv) (.int 0) (.int 0))] 0 0 (mkF m 132 #[.val (.ref d), .val (.int c'), .val (.int (own_dig c')), .val (.int (1 : Int32)), .unset] [])
        refine Goes.runS X [(.iload_n 2, 1)] (S' := [.int (own_dig c')]) (pc' := 133) rfl ?_
        refine Goes.if1 X (pc' := 140) (o := 7) (cd := .eq) (fun q150 => ?_) (fun q150 => ?_)
        · have h151 : (own_dig c') = 0 := by simpa [ifCond.holds] using q150
          refine Goes.runS X [(.iload_n 1, 1), (.bipush 46, 2)] (S' := [.int (46 : Int32), .int c']) (pc' := 143) rfl ?_
          refine Goes.if2 X (pc' := 150) (o := 7) (cd := .ne) (fun q152 => ?_) (fun q152 => ?_)
          · have h153 : ¬ c' = (46 : Int32) := by simpa [if_icmp.holds] using q152
            refine Goes.runS X [(.iload_n 3, 1)] (S' := [.int (1 : Int32)]) (pc' := 151) rfl ?_
            refine Goes.if1 X (pc' := 159) (o := 8) (cd := .eq) (fun q => absurd q (by decide)) (fun _ => ?_)
            refine Goes.runS X [(.bipush 6, 2)] (S' := [.int (6 : Int32)]) (pc' := 156) rfl ?_
            refine Goes.goto X (o := 90) (pc' := 246) ?_
            exact S _ _ _ (by clear hw hCS E M S X; simp_all [own_next, own_d0])
          · have h154 : c' = (46 : Int32) := by simpa [if_icmp.holds] using q152
            refine Goes.runS X [(.iconst 4, 1)] (S' := [.int (4 : Int32)]) (pc' := 147) rfl ?_
            refine Goes.goto X (o := 99) (pc' := 246) ?_
            exact S _ _ _ (by clear hw hCS E M S X; simp_all [own_next, own_d0])
        · have h155 : ¬ (own_dig c') = 0 := by simpa [ifCond.holds] using q150
          refine Goes.runS X [(.iconst 3, 1)] (S' := [.int (3 : Int32)]) (pc' := 137) rfl ?_
          refine Goes.goto X (o := 109) (pc' := 246) ?_
          exact S _ _ _ (by clear hw hCS E M S X; simp_all [own_next, own_d0])
      · show Goes _ _ _ _ _ _ _ _ _ _ _ _ _ _ _ _ _ _ [(d, o_Dig (.int (4 : Int32)) (.int en) (.long sig) (.long pl) (.int ne) (.int ed) (.long ex) (.ref u) (.ref h') (.int 0) (.int 0)), (u, o_SB (.ref b) (.int 0) (.int (Int32.ofNat k))), (b, oBs bs), (h', o_SB (hv) (.int 0) (.int 0))] 0 0 (mkF m 27 #[.val (.ref d), .val (.int c'), .val (.int (own_dig c')), .val (.int (1 : Int32)), .unset] [.int (4 : Int32)])
        refine Goes.tsw X (o := 137) (pc' := 164) (len := 49) (dflt := 217) (low := 0) (high := 8) (offs := #[49, 82, 105, 105, 137, 150, 172, 203, 203]) (by decide) (by decide) ?_
        show Goes _ _ _ _ _ _ _ _ _ _ _ _ _ _ _ _ _ _ [(d, o_Dig (.int (4 : Int32)) (.int en) (.long sig) (.long pl) (.int ne) (.int ed) (.long ex) (.ref u) (.ref h') (.int 0) (.int 0)), (u, o_SB (.ref b) (.int 0) (.int (Int32.ofNat k))), (b, oBs bs), (h', o_SB (hv) (.int 0) (.int 0))] 0 0 (mkF m 164 #[.val (.ref d), .val (.int c'), .val (.int (own_dig c')), .val (.int (1 : Int32)), .unset] [])
        refine Goes.runS X [(.iload_n 2, 1)] (S' := [.int (own_dig c')]) (pc' := 165) rfl ?_
        refine Goes.if1 X (pc' := 172) (o := 7) (cd := .eq) (fun q156 => ?_) (fun q156 => ?_)
        · have h157 : (own_dig c') = 0 := by simpa [ifCond.holds] using q156
          refine Goes.runS X [(.bipush 9, 2)] (S' := [.int (9 : Int32)]) (pc' := 174) rfl ?_
          refine Goes.goto X (o := 72) (pc' := 246) ?_
          exact S _ _ _ (by clear hw hCS E M S X; simp_all [own_next, own_d0])
        · have h158 : ¬ (own_dig c') = 0 := by simpa [ifCond.holds] using q156
          refine Goes.runS X [(.iconst 5, 1)] (S' := [.int (5 : Int32)]) (pc' := 169) rfl ?_
          refine Goes.goto X (o := 77) (pc' := 246) ?_
          exact S _ _ _ (by clear hw hCS E M S X; simp_all [own_next, own_d0])
      · show Goes _ _ _ _ _ _ _ _ _ _ _ _ _ _ _ _ _ _ [(d, o_Dig (.int (5 : Int32)) (.int en) (.long sig) (.long pl) (.int ne) (.int ed) (.long ex) (.ref u) (.ref h') (.int 0) (.int 0)), (u, o_SB (.ref b) (.int 0) (.int (Int32.ofNat k))), (b, oBs bs), (h', o_SB (hv) (.int 0) (.int 0))] 0 0 (mkF m 27 #[.val (.ref d), .val (.int c'), .val (.int (own_dig c')), .val (.int (1 : Int32)), .unset] [.int (5 : Int32)])
        refine Goes.tsw X (o := 150) (pc' := 177) (len := 49) (dflt := 217) (low := 0) (high := 8) (offs := #[49, 82, 105, 105, 137, 150, 172, 203, 203]) (by decide) (by decide) ?_
        show Goes _ _ _ _ _ _ _ _ _ _ _ _ _ _ _ _ _ _ [(d, o_Dig (.int (5 : Int32)) (.int en) (.long sig) (.long pl) (.int ne) (.int ed) (.long ex) (.ref u) (.ref h') (.int 0) (.int 0)), (u, o_SB (.ref b) (.int 0) (.int (Int32.ofNat k))), (b, oBs bs), (h', o_SB (hv) (.int 0) (.int 0))] 0 0 (mkF m 177 #[.val (.ref d), .val (.int c'), .val (.int (own_dig c')), .val (.int (1 : Int32)), .unset] [])
        refine Goes.runS X [(.iload_n 2, 1)] (S' := [.int (own_dig c')]) (pc' := 178) rfl ?_
        refine Goes.if1 X (pc' := 185) (o := 7) (cd := .eq) (fun q159 => ?_) (fun q159 => ?_)
        · have h160 : (own_dig c') = 0 := by simpa [ifCond.holds] using q159
          refine Goes.runS X [(.iload_n 3, 1)] (S' := [.int (1 : Int32)]) (pc' := 186) rfl ?_
          refine Goes.if1 X (pc' := 194) (o := 8) (cd := .eq) (fun q => absurd q (by decide)) (fun _ => ?_)
          refine Goes.runS X [(.bipush 6, 2)] (S' := [.int (6 : Int32)]) (pc' := 191) rfl ?_
          refine Goes.goto X (o := 55) (pc' := 246) ?_
          exact S _ _ _ (by clear hw hCS E M S X; simp_all [own_next, own_d0])
        · have h161 : ¬ (own_dig c') = 0 := by simpa [ifCond.holds] using q159
          refine Goes.runS X [(.iconst 5, 1)] (S' := [.int (5 : Int32)]) (pc' := 182) rfl ?_
          refine Goes.goto X (o := 64) (pc' := 246) ?_
          exact S _ _ _ (by clear hw hCS E M S X; simp_all [own_next, own_d0])
      · show Goes _ _ _ _ _ _ _ _ _ _ _ _ _ _ _ _ _ _ [(d, o_Dig (.int (6 : Int32)) (.int en) (.long sig) (.long pl) (.int ne) (.int ed) (.long ex) (.ref u) (.ref h') (.int 0) (.int 0)), (u, o_SB (.ref b) (.int 0) (.int (Int32.ofNat k))), (b, oBs bs), (h', o_SB (hv) (.int 0) (.int 0))] 0 0 (mkF m 27 #[.val (.ref d), .val (.int c'), .val (.int (own_dig c')), .val (.int (1 : Int32)), .unset] [.int (6 : Int32)])
        refine Goes.tsw X (o := 172) (pc' := 199) (len := 49) (dflt := 217) (low := 0) (high := 8) (offs := #[49, 82, 105, 105, 137, 150, 172, 203, 203]) (by decide) (by decide) ?_
        show Goes _ _ _ _ _ _ _ _ _ _ _ _ _ _ _ _ _ _ [(d, o_Dig (.int (6 : Int32)) (.int en) (.long sig) (.long pl) (.int ne) (.int ed) (.long ex) (.ref u) (.ref h') (.int 0) (.int 0)), (u, o_SB (.ref b) (.int 0) (.int (Int32.ofNat k))), (b, oBs bs), (h', o_SB (hv) (.int 0) (.int 0))] 0 0 (mkF m 199 #[.val (.ref d), .val (.int c'), .val (.int (own_dig c')), .val (.int (1 : Int32)), .unset] [])
        refine Goes.runS X [(.iload_n 1, 1), (.bipush 45, 2)] (S' := [.int (45 : Int32), .int c']) (pc' := 202) rfl ?_
        refine Goes.if2 X (pc' := 211) (o := 9) (cd := .eq) (fun q162 => ?_) (fun q162 => ?_)
        · have h163 : c' = (45 : Int32) := by simpa [if_icmp.holds] using q162
          refine Goes.runS X [(.bipush 7, 2)] (S' := [.int (7 : Int32)]) (pc' := 213) rfl ?_
          refine Goes.goto X (o := 33) (pc' := 246) ?_
          exact S _ _ _ (by clear hw hCS E M S X; simp_all [own_next, own_d0])
        · have h164 : ¬ c' = (45 : Int32) := by simpa [if_icmp.holds] using q162
          refine Goes.runS X [(.iload_n 1, 1), (.bipush 43, 2)] (S' := [.int (43 : Int32), .int c']) (pc' := 208) rfl ?_
          refine Goes.if2 X (pc' := 216) (o := 8) (cd := .ne) (fun q165 => ?_) (fun q165 => ?_)
          · have h166 : ¬ c' = (43 : Int32) := by simpa [if_icmp.holds] using q165
            refine Goes.runS X [(.iload_n 2, 1)] (S' := [.int (own_dig c')]) (pc' := 217) rfl ?_
            refine Goes.if1 X (pc' := 225) (o := 8) (cd := .eq) (fun q167 => ?_) (fun q167 => ?_)
            · have h168 : (own_dig c') = 0 := by simpa [ifCond.holds] using q167
              refine Goes.runS X [(.bipush 9, 2)] (S' := [.int (9 : Int32)]) (pc' := 227) rfl ?_
              refine Goes.goto X (o := 19) (pc' := 246) ?_
              exact S _ _ _ (by clear hw hCS E M S X; simp_all [own_next, own_d0])
            · have h169 : ¬ (own_dig c') = 0 := by simpa [ifCond.holds] using q167
              refine Goes.runS X [(.bipush 8, 2)] (S' := [.int (8 : Int32)]) (pc' := 222) rfl ?_
              refine Goes.goto X (o := 24) (pc' := 246) ?_
              exact S _ _ _ (by clear hw hCS E M S X; simp_all [own_next, own_d0])
          · have h170 : c' = (43 : Int32) := by simpa [if_icmp.holds] using q165
            refine Goes.runS X [(.bipush 7, 2)] (S' := [.int (7 : Int32)]) (pc' := 213) rfl ?_
            refine Goes.goto X (o := 33) (pc' := 246) ?_
            exact S _ _ _ (by clear hw hCS E M S X; simp_all [own_next, own_d0])
      · show Goes _ _ _ _ _ _ _ _ _ _ _ _ _ _ _ _ _ _ [(d, o_Dig (.int (7 : Int32)) (.int en) (.long sig) (.long pl) (.int ne) (.int ed) (.long ex) (.ref u) (.ref h') (.int 0) (.int 0)), (u, o_SB (.ref b) (.int 0) (.int (Int32.ofNat k))), (b, oBs bs), (h', o_SB (hv) (.int 0) (.int 0))] 0 0 (mkF m 27 #[.val (.ref d), .val (.int c'), .val (.int (own_dig c')), .val (.int (1 : Int32)), .unset] [.int (7 : Int32)])
        refine Goes.tsw X (o := 203) (pc' := 230) (len := 49) (dflt := 217) (low := 0) (high := 8) (offs := #[49, 82, 105, 105, 137, 150, 172, 203, 203]) (by decide) (by decide) ?_
        show Goes _ _ _ _ _ _ _ _ _ _ _ _ _ _ _ _ _ _ [(d, o_Dig (.int (7 : Int32)) (.int en) (.long sig) (.long pl) (.int ne) (.int ed) (.long ex) (.ref u) (.ref h') (.int 0) (.int 0)), (u, o_SB (.ref b) (.int 0) (.int (Int32.ofNat k))), (b, oBs bs), (h', o_SB (hv) (.int 0) (.int 0))] 0 0 (mkF m 230 #[.val (.ref d), .val (.int c'), .val (.int (own_dig c')), .val (.int (1 : Int32)), .unset] [])
        refine Goes.runS X [(.iload_n 2, 1)] (S' := [.int (own_dig c')]) (pc' := 231) rfl ?_
        refine Goes.if1 X (pc' := 239) (o := 8) (cd := .eq) (fun q171 => ?_) (fun q171 => ?_)
        · have h172 : (own_dig c') = 0 := by simpa [ifCond.holds] using q171
          refine Goes.runS X [(.bipush 9, 2)] (S' := [.int (9 : Int32)]) (pc' := 241) rfl ?_
          refine Goes.goto X (o := 5) (pc' := 246) ?_
          exact S _ _ _ (by clear hw hCS E M S X; simp_all [own_next, own_d0])
        · have h173 : ¬ (own_dig c') = 0 := by simpa [ifCond.holds] using q171
          refine Goes.runS X [(.bipush 8, 2)] (S' := [.int (8 : Int32)]) (pc' := 236) rfl ?_
          refine Goes.goto X (o := 10) (pc' := 246) ?_
          exact S _ _ _ (by clear hw hCS E M S X; simp_all [own_next, own_d0])
      · show Goes _ _ _ _ _ _ _ _ _ _ _ _ _ _ _ _ _ _ [(d, o_Dig (.int (8 : Int32)) (.int en) (.long sig) (.long pl) (.int ne) (.int ed) (.long ex) (.ref u) (.ref h') (.int 0) (.int 0)), (u, o_SB (.ref b) (.int 0) (.int (Int32.ofNat k))), (b, oBs bs), (h', o_SB (hv) (.int 0) (.int 0))] 0 0 (mkF m 27 #[.val (.ref d), .val (.int c'), .val (.int (own_dig c')), .val (.int (1 : Int32)), .unset] [.int (8 : Int32)])
        refine Goes.tsw X (o := 203) (pc' := 230) (len := 49) (dflt := 217) (low := 0) (high := 8) (offs := #[49, 82, 105, 105, 137, 150, 172, 203, 203]) (by decide) (by decide) ?_
        show Goes _ _ _ _ _ _ _ _ _ _ _ _ _ _ _ _ _ _ [(d, o_Dig (.int (8 : Int32)) (.int en) (.long sig) (.long pl) (.int ne) (.int ed) (.long ex) (.ref u) (.ref h') (.int 0) (.int 0)), (u, o_SB (.ref b) (.int 0) (.int (Int32.ofNat k))), (b, oBs bs), (h', o_SB (hv) (.int 0) (.int 0))] 0 0 (mkF m 230 #[.val (.ref d), .val (.int c'), .val (.int (own_dig c')), .val (.int (1 : Int32)), .unset] [])
        refine Goes.runS X [(.iload_n 2, 1)] (S' := [.int (own_dig c')]) (pc' := 231) rfl ?_
        refine Goes.if1 X (pc' := 239) (o := 8) (cd := .eq) (fun q174 => ?_) (fun q174 => ?_)
        · have h175 : (own_dig c') = 0 := by simpa [ifCond.holds] using q174
          refine Goes.runS X [(.bipush 9, 2)] (S' := [.int (9 : Int32)]) (pc' := 241) rfl ?_
          refine Goes.goto X (o := 5) (pc' := 246) ?_
          exact S _ _ _ (by clear hw hCS E M S X; simp_all [own_next, own_d0])
        · have h176 : ¬ (own_dig c') = 0 := by simpa [ifCond.holds] using q174
          refine Goes.runS X [(.bipush 8, 2)] (S' := [.int (8 : Int32)]) (pc' := 236) rfl ?_
          refine Goes.goto X (o := 10) (pc' := 246) ?_
          exact S _ _ _ (by clear hw hCS E M S X; simp_all [own_next, own_d0])
theorem own_i2c {z : Int32} (h0 : 0 ≤ z.toInt) (h1 : z.toInt ≤ 255) : oI2c z = z := by
  have e : z &&& 255 = z := by
    apply Int32.toBitVec_inj.mp
    apply BitVec.eq_of_toNat_eq
    change 0 ≤ z.toBitVec.toInt at h0
    change z.toBitVec.toInt ≤ 255 at h1
    rw [BitVec.toInt_eq_toNat_cond] at h0 h1
    rw [Int32.toBitVec_and, BitVec.toNat_and]
    show z.toBitVec.toNat &&& 255 = z.toBitVec.toNat
    have : z.toBitVec.toNat < 2 ^ 8 := by split at h0 <;> split at h1 <;> omega
    exact Nat.and_two_pow_sub_one_of_lt_two_pow this
  have q := i2c_mask z
  rw [e] at q
  exact q
theorem own_nch {z : Int32} (h0 : 0 ≤ z.toInt) (h1 : z.toInt ≤ 255) : narrow .char (.int z) = .int z := by
  show Value.int (oI2c z) = .int z
  rw [own_i2c h0 h1]
theorem own_nca {z : Int32} (h0 : 0 ≤ z.toInt) (h1 : z.toInt ≤ 255) : nar .char z = z := own_i2c h0 h1
theorem own_le {z : Int32} (h1 : z.toInt ≤ 255) : z ≤ 255 := Int32.le_iff_toInt_le.mpr h1
theorem own_r (y : Int64) : 0 ≤ ((y &&& 255).toInt32).toInt ∧ ((y &&& 255).toInt32).toInt ≤ 255 := by
  have q : (y &&& 255).toBitVec.toNat ≤ 255 := by rw [Int64.toBitVec_and, BitVec.toNat_and]; exact Nat.and_le_right
  have e : ((y &&& 255).toInt32).toBitVec.toNat = (y &&& 255).toBitVec.toNat := by
    show (BitVec.signExtend 32 (y &&& 255).toBitVec).toNat = _
    rw [BitVec.signExtend_eq_setWidth_of_le _ (by decide), BitVec.toNat_setWidth]
    omega
  show 0 ≤ ((y &&& 255).toInt32).toBitVec.toInt ∧ ((y &&& 255).toInt32).toBitVec.toInt ≤ 255
  rw [BitVec.toInt_eq_toNat_cond, e]
  split <;> omega
theorem own_add (a b : Int32) (h0 : 0 ≤ a.toInt) (h1 : a.toInt ≤ 1000) (h2 : 0 ≤ b.toInt) (h3 : b.toInt ≤ 1000) : (a + b).toInt = a.toInt + b.toInt := by
  rw [Int32.toInt_add]
  exact Int.bmod_eq_of_le (by omega) (by omega)
theorem own_md (y : Int64) (b k : Int32) (hk : 0 < k.toInt) (hk' : k.toInt ≤ 10) (hb : 0 ≤ b.toInt) (hb' : b.toInt ≤ 100) : 0 ≤ (b + (y &&& 255).toInt32 % k).toInt ∧ (b + (y &&& 255).toInt32 % k).toInt ≤ 255 := by
  have h := own_r y
  have e : ((y &&& 255).toInt32 % k).toInt = ((y &&& 255).toInt32).toInt.tmod k.toInt := Int32.toInt_mod _ _
  have e1 := Int.tmod_nonneg k.toInt h.1
  have e2 := Int.tmod_lt_of_pos ((y &&& 255).toInt32).toInt hk
  rw [← e] at e1 e2
  rw [own_add b _ hb (by omega) e1 (by omega)]
  omega
set_option maxRecDepth 65536 in
set_option maxHeartbeats 40000000 in
theorem D_pick (l : Launch) (Z : State) (a0 : Array Value) (h0 : Heap) (hw : ∀ d ∈ tables_1, d.before a0 Z = true) (sel : Int32) (raw : Int64) (i : Int32) : Does l Z a0 h0 y_0 method_3_code 6 (some .char) ({ frames := 0, cells := 0, slots := 0, locals := 0 } : Room) #[.int sel, .long raw, .int i] [] (fun v F => ∃ c, v = some (.int c) ∧ 0 ≤ c.toInt ∧ c.toInt ≤ 255 ∧ F = []) := by
  refine Does.mk #[.val (.int sel), .val (.long raw), .second, .val (.int i), .unset, .unset] (plainFor_of_name (by decide +kernel)) (fun m => by first | (simp [entryFrame, mkF, argsToLocals, Value.category]; done) | rfl) ?_
  intro p e s m args below meth c h X
  show Goes _ _ _ _ _ _ _ _ _ _ _ _ _ _ _ _ _ _ [] 0 0 (mkF m 0 #[.val (.int sel), .val (.long raw), .second, .val (.int i), .unset, .unset] [])
  refine Goes.run X [(.iload_n 0, 1), (.iconst 4, 1), (.iload_n 3, 1), (.imul, 1), (.iushr, 1), (.bipush 15, 2), (.iand, 1), (.istore 4, 2), (.lload_n 1, 1), (.bipush 8, 2), (.iload_n 3, 1), (.imul, 1), (.lushr, 1)] (L' := #[.val (.int sel), .val (.long raw), .second, .val (.int i), .val (.int ((oUshr sel ((4 : Int32) * i)) &&& (15 : Int32))), .unset]) (S' := [.long (oLushr raw ((8 : Int32) * i))]) (pc' := 16) rfl ?_
  refine Goes.ldcJ X (wd hw 6 rfl) ?_
  refine Goes.run X [(.land, 1), (.l2i, 1), (.istore 5, 2), (.iload 4, 2)] (L' := #[.val (.int sel), .val (.long raw), .second, .val (.int i), .val (.int ((oUshr sel ((4 : Int32) * i)) &&& (15 : Int32))), .val (.int ((((oLushr raw ((8 : Int32) * i)) &&& (255 : Int64))).toInt32))]) (S' := [.int ((oUshr sel ((4 : Int32) * i)) &&& (15 : Int32))]) (pc' := 25) rfl ?_
  refine Goes.if1 X (pc' := 31) (o := 6) (cd := .ne) (fun q177 => ?_) (fun q177 => ?_)
  · refine Goes.runS X [(.iload 4, 2), (.iconst 1, 1)] (S' := [.int (1 : Int32), .int ((oUshr sel ((4 : Int32) * i)) &&& (15 : Int32))]) (pc' := 34) rfl ?_
    refine Goes.if2 X (pc' := 40) (o := 6) (cd := .ne) (fun q178 => ?_) (fun q178 => ?_)
    · refine Goes.runS X [(.iload 4, 2), (.iconst 2, 1)] (S' := [.int (2 : Int32), .int ((oUshr sel ((4 : Int32) * i)) &&& (15 : Int32))]) (pc' := 43) rfl ?_
      refine Goes.if2 X (pc' := 49) (o := 6) (cd := .ne) (fun q179 => ?_) (fun q179 => ?_)
      · refine Goes.runS X [(.iload 4, 2), (.iconst 3, 1)] (S' := [.int (3 : Int32), .int ((oUshr sel ((4 : Int32) * i)) &&& (15 : Int32))]) (pc' := 52) rfl ?_
        refine Goes.if2 X (pc' := 58) (o := 6) (cd := .ne) (fun q180 => ?_) (fun q180 => ?_)
        · refine Goes.runS X [(.iload 4, 2), (.iconst 4, 1)] (S' := [.int (4 : Int32), .int ((oUshr sel ((4 : Int32) * i)) &&& (15 : Int32))]) (pc' := 61) rfl ?_
          refine Goes.if2 X (pc' := 67) (o := 6) (cd := .ne) (fun q181 => ?_) (fun q181 => ?_)
          · refine Goes.runS X [(.iload 4, 2), (.iconst 5, 1)] (S' := [.int (5 : Int32), .int ((oUshr sel ((4 : Int32) * i)) &&& (15 : Int32))]) (pc' := 70) rfl ?_
            refine Goes.if2 X (pc' := 76) (o := 6) (cd := .ne) (fun q182 => ?_) (fun q182 => ?_)
            · refine Goes.runS X [(.iload 4, 2), (.bipush 8, 2)] (S' := [.int (8 : Int32), .int ((oUshr sel ((4 : Int32) * i)) &&& (15 : Int32))]) (pc' := 80) rfl ?_
              refine Goes.if2 X (pc' := 93) (o := 13) (cd := .gt) (fun q183 => ?_) (fun q183 => ?_)
              · refine Goes.runS X [(.iload 4, 2), (.bipush 9, 2)] (S' := [.int (9 : Int32), .int ((oUshr sel ((4 : Int32) * i)) &&& (15 : Int32))]) (pc' := 97) rfl ?_
                refine Goes.if2 X (pc' := 110) (o := 13) (cd := .ne) (fun q184 => ?_) (fun q184 => ?_)
                · refine Goes.runS X [(.iload 5, 2), (.i2c, 1)] (S' := [.int (oI2c ((((oLushr raw ((8 : Int32) * i)) &&& (255 : Int64))).toInt32))]) (pc' := 113) rfl ?_
                  rw [own_i2c (own_r (oLushr raw ((8 : Int32) * i))).1 (own_r (oLushr raw ((8 : Int32) * i))).2]
                  show Goes _ _ _ _ _ _ _ _ _ _ _ _ _ _ _ _ _ _ [] 0 0 (mkF m 113 #[.val (.int sel), .val (.long raw), .second, .val (.int i), .val (.int ((oUshr sel ((4 : Int32) * i)) &&& (15 : Int32))), .val (.int ((((oLushr raw ((8 : Int32) * i)) &&& (255 : Int64))).toInt32))] [.int ((((oLushr raw ((8 : Int32) * i)) &&& (255 : Int64))).toInt32)])
                  refine Goes.retI X (by simp) (own_nch (own_r (oLushr raw ((8 : Int32) * i))).1 (own_r (oLushr raw ((8 : Int32) * i))).2) ?_
                  exact ⟨_, rfl, (own_r (oLushr raw ((8 : Int32) * i))).1, (own_r (oLushr raw ((8 : Int32) * i))).2, rfl⟩
                · refine Goes.runS X [(.bipush 48, 2), (.iload 5, 2), (.bipush 10, 2), (.irem, 1), (.iadd, 1), (.i2c, 1)] (S' := [.int (oI2c ((48 : Int32) + ((((oLushr raw ((8 : Int32) * i)) &&& (255 : Int64))).toInt32 % (10 : Int32))))]) (pc' := 109) rfl ?_
                  rw [own_i2c (own_md (oLushr raw ((8 : Int32) * i)) 48 10 (by decide) (by decide) (by decide) (by decide)).1 (own_md (oLushr raw ((8 : Int32) * i)) 48 10 (by decide) (by decide) (by decide) (by decide)).2]
                  show Goes _ _ _ _ _ _ _ _ _ _ _ _ _ _ _ _ _ _ [] 0 0 (mkF m 109 #[.val (.int sel), .val (.long raw), .second, .val (.int i), .val (.int ((oUshr sel ((4 : Int32) * i)) &&& (15 : Int32))), .val (.int ((((oLushr raw ((8 : Int32) * i)) &&& (255 : Int64))).toInt32))] [.int ((48 : Int32) + ((((oLushr raw ((8 : Int32) * i)) &&& (255 : Int64))).toInt32 % (10 : Int32)))])
                  refine Goes.retI X (by simp) (own_nch (own_md (oLushr raw ((8 : Int32) * i)) 48 10 (by decide) (by decide) (by decide) (by decide)).1 (own_md (oLushr raw ((8 : Int32) * i)) 48 10 (by decide) (by decide) (by decide) (by decide)).2) ?_
                  exact ⟨_, rfl, (own_md (oLushr raw ((8 : Int32) * i)) 48 10 (by decide) (by decide) (by decide) (by decide)).1, (own_md (oLushr raw ((8 : Int32) * i)) 48 10 (by decide) (by decide) (by decide) (by decide)).2, rfl⟩
              · refine Goes.runS X [(.bipush 49, 2), (.iload 5, 2), (.bipush 9, 2), (.irem, 1), (.iadd, 1), (.i2c, 1)] (S' := [.int (oI2c ((49 : Int32) + ((((oLushr raw ((8 : Int32) * i)) &&& (255 : Int64))).toInt32 % (9 : Int32))))]) (pc' := 92) rfl ?_
                rw [own_i2c (own_md (oLushr raw ((8 : Int32) * i)) 49 9 (by decide) (by decide) (by decide) (by decide)).1 (own_md (oLushr raw ((8 : Int32) * i)) 49 9 (by decide) (by decide) (by decide) (by decide)).2]
                show Goes _ _ _ _ _ _ _ _ _ _ _ _ _ _ _ _ _ _ [] 0 0 (mkF m 92 #[.val (.int sel), .val (.long raw), .second, .val (.int i), .val (.int ((oUshr sel ((4 : Int32) * i)) &&& (15 : Int32))), .val (.int ((((oLushr raw ((8 : Int32) * i)) &&& (255 : Int64))).toInt32))] [.int ((49 : Int32) + ((((oLushr raw ((8 : Int32) * i)) &&& (255 : Int64))).toInt32 % (9 : Int32)))])
                refine Goes.retI X (by simp) (own_nch (own_md (oLushr raw ((8 : Int32) * i)) 49 9 (by decide) (by decide) (by decide) (by decide)).1 (own_md (oLushr raw ((8 : Int32) * i)) 49 9 (by decide) (by decide) (by decide) (by decide)).2) ?_
                exact ⟨_, rfl, (own_md (oLushr raw ((8 : Int32) * i)) 49 9 (by decide) (by decide) (by decide) (by decide)).1, (own_md (oLushr raw ((8 : Int32) * i)) 49 9 (by decide) (by decide) (by decide) (by decide)).2, rfl⟩
            · refine Goes.runS X [(.bipush 48, 2)] (S' := [.int (48 : Int32)]) (pc' := 75) rfl ?_
              refine Goes.retI X (by simp) rfl ?_
              exact ⟨_, rfl, by decide, by decide, rfl⟩
          · refine Goes.runS X [(.bipush 69, 2)] (S' := [.int (69 : Int32)]) (pc' := 66) rfl ?_
            refine Goes.retI X (by simp) rfl ?_
            exact ⟨_, rfl, by decide, by decide, rfl⟩
        · refine Goes.runS X [(.bipush 101, 2)] (S' := [.int (101 : Int32)]) (pc' := 57) rfl ?_
          refine Goes.retI X (by simp) rfl ?_
          exact ⟨_, rfl, by decide, by decide, rfl⟩
      · refine Goes.runS X [(.bipush 46, 2)] (S' := [.int (46 : Int32)]) (pc' := 48) rfl ?_
        refine Goes.retI X (by simp) rfl ?_
        exact ⟨_, rfl, by decide, by decide, rfl⟩
    · refine Goes.runS X [(.bipush 43, 2)] (S' := [.int (43 : Int32)]) (pc' := 39) rfl ?_
      refine Goes.retI X (by simp) rfl ?_
      exact ⟨_, rfl, by decide, by decide, rfl⟩
  · refine Goes.runS X [(.bipush 45, 2)] (S' := [.int (45 : Int32)]) (pc' := 30) rfl ?_
    refine Goes.retI X (by simp) rfl ?_
    exact ⟨_, rfl, by decide, by decide, rfl⟩
set_option maxRecDepth 65536 in
set_option maxHeartbeats 40000000 in
theorem D_dg (l : Launch) (Z : State) (a0 : Array Value) (h0 : Heap) (hw : ∀ d ∈ tables_1, d.before a0 Z = true) (c' : Int32) : Does l Z a0 h0 y_13 method_4_code 1 (some .boolean) ({ frames := 0, cells := 0, slots := 0, locals := 0 } : Room) #[.int c'] [] (fun v F => v = some (.int (own_dig c')) ∧ F = []) := by
  refine Does.mk #[.val (.int c')] (plainFor_of_name (by decide +kernel)) (fun m => by first | (simp [entryFrame, mkF, argsToLocals, Value.category]; done) | rfl) ?_
  intro p e s m args below meth c h X
  show Goes _ _ _ _ _ _ _ _ _ _ _ _ _ _ _ _ _ _ [] 0 0 (mkF m 0 #[.val (.int c')] [])
  refine Goes.runS X [(.iload_n 0, 1), (.bipush 48, 2)] (S' := [.int (48 : Int32), .int c']) (pc' := 3) rfl ?_
  refine Goes.if2 X (pc' := 16) (o := 13) (cd := .lt) (fun q185 => ?_) (fun q185 => ?_)
  · have h186 : c' < 48 := by simpa [if_icmp.holds] using q185
    refine Goes.runS X [(.iconst 0, 1)] (S' := [.int (0 : Int32)]) (pc' := 17) rfl ?_
    refine Goes.retI X (by simp) rfl ?_
    exact ⟨by simp [own_dig, h186], rfl⟩
  · have h187 : ¬ c' < 48 := by simpa [if_icmp.holds] using q185
    refine Goes.runS X [(.iload_n 0, 1), (.bipush 57, 2)] (S' := [.int (57 : Int32), .int c']) (pc' := 9) rfl ?_
    refine Goes.if2 X (pc' := 16) (o := 7) (cd := .gt) (fun q188 => ?_) (fun q188 => ?_)
    · have h189 : 57 < c' := by simpa [if_icmp.holds] using q188
      refine Goes.runS X [(.iconst 0, 1)] (S' := [.int (0 : Int32)]) (pc' := 17) rfl ?_
      refine Goes.retI X (by simp) rfl ?_
      exact ⟨by simp [own_dig, h187, h189], rfl⟩
    · have h190 : ¬ 57 < c' := by simpa [if_icmp.holds] using q188
      refine Goes.runS X [(.iconst 1, 1)] (S' := [.int (1 : Int32)]) (pc' := 13) rfl ?_
      refine Goes.goto X (o := 4) (pc' := 17) ?_
      refine Goes.retI X (by simp) rfl ?_
      exact ⟨by simp [own_dig, h187, h190], rfl⟩
def own_cl (c : Int32) : Nat := if c = 45 then 0 else if c = 43 then 1 else if c = 46 then 2 else if c = 101 then 3 else if c = 69 then 3 else if own_dig c = 0 then 5 else 4
theorem own_cl_lt (c : Int32) : own_cl c < 6 := by unfold own_cl; (repeat' split) <;> decide
theorem own_cl0 (c : Int32) : own_cl c = 0 ↔ c = 45 := by
  unfold own_cl; repeat' split
  all_goals simp_all
theorem own_cl01 (c : Int32) : own_cl c ≤ 1 ↔ c = 45 ∨ c = 43 := by
  unfold own_cl; repeat' split
  all_goals simp_all
theorem own_cl2 (c : Int32) : own_cl c = 2 ↔ c = 46 := by
  unfold own_cl; repeat' split
  all_goals simp_all
theorem own_cl3 (c : Int32) : own_cl c = 3 ↔ c = 101 ∨ c = 69 := by
  unfold own_cl; repeat' split
  all_goals simp_all
theorem own_cl4 (c : Int32) : own_cl c = 4 ↔ ¬ own_dig c = 0 := by
  unfold own_cl; repeat' split
  all_goals first | (subst_vars; decide) | simp_all
theorem own_cl5 (c : Int32) : own_cl c = 5 ↔ own_dig c = 0 ∧ ¬ c = 46 ∧ ¬ c = 101 ∧ ¬ c = 69 ∧ ¬ c = 43 ∧ ¬ c = 45 := by
  unfold own_cl; repeat' split
  all_goals simp_all
def own_kd (cl k : Nat) : Nat := if k = 0 then (if cl = 2 then 1 else 0) else if k = 1 then (if cl = 3 then 1 else 0) else if k = 2 then (if cl ≤ 1 then 1 else 0) else (if cl = 5 then 1 else 0)
theorem own_kd_le (cl k : Nat) : own_kd cl k ≤ 1 := by unfold own_kd; (repeat' split) <;> decide
def own_atN (f n j cl k : Nat) : Nat := if j < f then 0 else if j < n then own_kd cl k else 0
theorem own_atN_le (f n j cl k : Nat) : own_atN f n j cl k ≤ 1 := by
  unfold own_atN; repeat' split
  all_goals first | decide | exact own_kd_le _ _
def own_cntN (f n k x0 x1 x2 x3 x4 x5 : Nat) : Nat := own_atN f n 0 x0 k + own_atN f n 1 x1 k + own_atN f n 2 x2 k + own_atN f n 3 x3 k + own_atN f n 4 x4 k + own_atN f n 5 x5 k
def own_posN (f n k x1 x2 x3 x4 x5 : Nat) : Nat := own_atN f n 1 x1 k + 2 * own_atN f n 2 x2 k + 3 * own_atN f n 3 x3 k + 4 * own_atN f n 4 x4 k + 5 * own_atN f n 5 x5 k
theorem own_cntN_le (f n k x0 x1 x2 x3 x4 x5 : Nat) : own_cntN f n k x0 x1 x2 x3 x4 x5 ≤ 6 := by
  have := own_atN_le f n 0 x0 k; have := own_atN_le f n 1 x1 k; have := own_atN_le f n 2 x2 k; have := own_atN_le f n 3 x3 k; have := own_atN_le f n 4 x4 k; have := own_atN_le f n 5 x5 k
  unfold own_cntN; omega
theorem own_posN_le (f n k x1 x2 x3 x4 x5 : Nat) : own_posN f n k x1 x2 x3 x4 x5 ≤ 15 := by
  have := own_atN_le f n 1 x1 k; have := own_atN_le f n 2 x2 k; have := own_atN_le f n 3 x3 k; have := own_atN_le f n 4 x4 k; have := own_atN_le f n 5 x5 k
  unfold own_posN; omega
def own_g (L : List Nat) (i : Nat) : Nat := L.getD i 9
def own_cntL (f n k : Nat) (L : List Nat) : Nat := own_cntN f n k (own_g L 0) (own_g L 1) (own_g L 2) (own_g L 3) (own_g L 4) (own_g L 5)
def own_posL (f n k : Nat) (L : List Nat) : Nat := own_posN f n k (own_g L 1) (own_g L 2) (own_g L 3) (own_g L 4) (own_g L 5)
def own_refA (n a : Nat) (L : List Nat) : Nat :=
  if n ≤ a then 0
  else if own_cntL 0 n 3 L = 0 then
    if own_g L a = 4 then
      if own_g L (n - 1) = 4 then
        if 1 < own_cntL 0 n 0 L then 0
        else if 1 < own_cntL 0 n 1 L then 0
        else if 1 < own_cntL a n 2 L then 0
        else if own_cntL a n 2 L = 1 ∧ (own_cntL 0 n 1 L = 0 ∨ ¬ own_posL a n 2 L = own_posL 0 n 1 L + 1) then 0
        else if own_cntL 0 n 0 L = 1 ∧ own_cntL 0 n 1 L = 1 ∧ own_posL 0 n 1 L < own_posL 0 n 0 L then 0
        else if own_cntL 0 n 0 L = 1 then
          if own_posL 0 n 0 L + 1 < n then (if own_g L (own_posL 0 n 0 L + 1) = 4 then 1 else 0) else 0
        else 1
      else 0
    else 0
  else 0
def own_refN (n : Nat) (L : List Nat) : Nat := own_refA n (if 0 < n ∧ own_g L 0 = 0 then 1 else 0) L
theorem own_s0 : ∀ x : Nat, x ≤ 15 → (ifCond.holds .eq (Int32.ofNat x) = true ↔ x = 0) := by decide
theorem own_s1 : ∀ x : Nat, x ≤ 15 → (if_icmp.holds .gt (Int32.ofNat x) 1 = true ↔ 1 < x) := by decide
theorem own_s1' : ∀ x : Nat, x ≤ 15 → (if_icmp.holds .le (Int32.ofNat x) 1 = true ↔ ¬ 1 < x) := by decide
theorem own_s2 : ∀ x : Nat, x ≤ 15 → (if_icmp.holds .ne (Int32.ofNat x) 1 = true ↔ ¬ x = 1) := by decide
theorem own_s3 : ∀ x : Nat, x ≤ 15 → ∀ y : Nat, y ≤ 15 → (if_icmp.holds .eq (Int32.ofNat x) (Int32.ofNat y + 1) = true ↔ x = y + 1) := by decide
theorem own_s4 : ∀ x : Nat, x ≤ 15 → ∀ y : Nat, y ≤ 15 → (if_icmp.holds .le (Int32.ofNat x) (Int32.ofNat y) = true ↔ ¬ y < x) := by decide
theorem own_s5 : ∀ n : Nat, n ≤ 6 → ∀ x : Nat, x ≤ 15 → (if_icmp.holds .ge (Int32.ofNat x + 1) (Int32.ofNat n) = true ↔ ¬ x + 1 < n) := by decide
theorem own_s6 : ∀ x : Nat, x ≤ 7 → ∀ y : Nat, y ≤ 7 → (if_icmp.holds .lt (Int32.ofNat x) (Int32.ofNat y) = true ↔ x < y) := by decide
theorem own_s7 : ∀ x : Nat, x ≤ 7 → ∀ y : Nat, y ≤ 7 → (if_icmp.holds .ge (Int32.ofNat x) (Int32.ofNat y) = true ↔ ¬ x < y) := by decide
theorem own_s8 : ∀ x : Nat, x ≤ 1 → (if ifCond.holds .eq (Int32.ofNat x) = true then (0 : Int32) else 1) = Int32.ofNat x := by decide
theorem own_sT {b : Bool} {P : Prop} (h : b = true ↔ P) (q : b = true) : P := h.mp q
theorem own_sF {b : Bool} {P : Prop} (h : b = true ↔ P) (q : b = false) : ¬ P := fun z => by rw [h.mpr z] at q; cases q
set_option maxRecDepth 65536 in
set_option maxHeartbeats 40000000 in
theorem D_kind0 (l : Launch) (Z : State) (a0 : Array Value) (h0 : Heap) (hw : ∀ d ∈ tables_1, d.before a0 Z = true) (c' : Int32) : Does l Z a0 h0 y_12 method_5_code 2 (some .boolean) ({ frames := 0, cells := 0, slots := 0, locals := 0 } : Room) #[.int c', .int (0 : Int32)] [] (fun v F => v = some (.int (Int32.ofNat (own_kd (own_cl c') 0))) ∧ F = []) := by
  refine Does.mk #[.val (.int c'), .val (.int (0 : Int32))] (plainFor_of_name (by decide +kernel)) (fun m => by first | (simp [entryFrame, mkF, argsToLocals, Value.category]; done) | rfl) ?_
  intro p e s m args below meth c h X
  show Goes _ _ _ _ _ _ _ _ _ _ _ _ _ _ _ _ _ _ [] 0 0 (mkF m 0 #[.val (.int c'), .val (.int (0 : Int32))] [])
  refine Goes.runS X [(.iload_n 1, 1)] (S' := [.int (0 : Int32)]) (pc' := 1) rfl ?_
  refine Goes.if1 X (pc' := 16) (o := 15) (cd := .ne) (fun q => absurd q (by decide)) (fun _ => ?_)
  refine Goes.runS X [(.iload_n 0, 1), (.bipush 46, 2)] (S' := [.int (46 : Int32), .int c']) (pc' := 7) rfl ?_
  refine Goes.if2 X (pc' := 14) (o := 7) (cd := .ne) (fun q191 => ?_) (fun q191 => ?_)
  · have h192 : ¬ c' = (46 : Int32) := by simpa [if_icmp.holds] using q191
    refine Goes.runS X [(.iconst 0, 1)] (S' := [.int (0 : Int32)]) (pc' := 15) rfl ?_
    refine Goes.retI X (by simp) rfl ?_
    exact ⟨by simp [own_kd, own_cl2, h192], rfl⟩
  · have h193 : c' = (46 : Int32) := by simpa [if_icmp.holds] using q191
    refine Goes.runS X [(.iconst 1, 1)] (S' := [.int (1 : Int32)]) (pc' := 11) rfl ?_
    refine Goes.goto X (o := 4) (pc' := 15) ?_
    refine Goes.retI X (by simp) rfl ?_
    exact ⟨by simp [own_kd, own_cl2, h193], rfl⟩
set_option maxRecDepth 65536 in
set_option maxHeartbeats 40000000 in
theorem D_kind1 (l : Launch) (Z : State) (a0 : Array Value) (h0 : Heap) (hw : ∀ d ∈ tables_1, d.before a0 Z = true) (c' : Int32) : Does l Z a0 h0 y_12 method_5_code 2 (some .boolean) ({ frames := 0, cells := 0, slots := 0, locals := 0 } : Room) #[.int c', .int (1 : Int32)] [] (fun v F => v = some (.int (Int32.ofNat (own_kd (own_cl c') 1))) ∧ F = []) := by
  refine Does.mk #[.val (.int c'), .val (.int (1 : Int32))] (plainFor_of_name (by decide +kernel)) (fun m => by first | (simp [entryFrame, mkF, argsToLocals, Value.category]; done) | rfl) ?_
  intro p e s m args below meth c h X
  show Goes _ _ _ _ _ _ _ _ _ _ _ _ _ _ _ _ _ _ [] 0 0 (mkF m 0 #[.val (.int c'), .val (.int (1 : Int32))] [])
  refine Goes.runS X [(.iload_n 1, 1)] (S' := [.int (1 : Int32)]) (pc' := 1) rfl ?_
  refine Goes.if1 X (pc' := 16) (o := 15) (cd := .ne) (fun _ => ?_) (fun q => absurd q (by decide))
  refine Goes.runS X [(.iload_n 1, 1), (.iconst 1, 1)] (S' := [.int (1 : Int32), .int (1 : Int32)]) (pc' := 18) rfl ?_
  refine Goes.if2 X (pc' := 39) (o := 21) (cd := .ne) (fun q => absurd q (by decide)) (fun _ => ?_)
  refine Goes.runS X [(.iload_n 0, 1), (.bipush 101, 2)] (S' := [.int (101 : Int32), .int c']) (pc' := 24) rfl ?_
  refine Goes.if2 X (pc' := 33) (o := 9) (cd := .eq) (fun q194 => ?_) (fun q194 => ?_)
  · have h195 : c' = (101 : Int32) := by simpa [if_icmp.holds] using q194
    refine Goes.runS X [(.iconst 1, 1)] (S' := [.int (1 : Int32)]) (pc' := 34) rfl ?_
    refine Goes.goto X (o := 4) (pc' := 38) ?_
    refine Goes.retI X (by simp) rfl ?_
    exact ⟨by simp [own_kd, own_cl3, h195], rfl⟩
  · have h196 : ¬ c' = (101 : Int32) := by simpa [if_icmp.holds] using q194
    refine Goes.runS X [(.iload_n 0, 1), (.bipush 69, 2)] (S' := [.int (69 : Int32), .int c']) (pc' := 30) rfl ?_
    refine Goes.if2 X (pc' := 37) (o := 7) (cd := .ne) (fun q197 => ?_) (fun q197 => ?_)
    · have h198 : ¬ c' = (69 : Int32) := by simpa [if_icmp.holds] using q197
      refine Goes.runS X [(.iconst 0, 1)] (S' := [.int (0 : Int32)]) (pc' := 38) rfl ?_
      refine Goes.retI X (by simp) rfl ?_
      exact ⟨by simp [own_kd, own_cl3, h196, h198], rfl⟩
    · have h199 : c' = (69 : Int32) := by simpa [if_icmp.holds] using q197
      refine Goes.runS X [(.iconst 1, 1)] (S' := [.int (1 : Int32)]) (pc' := 34) rfl ?_
      refine Goes.goto X (o := 4) (pc' := 38) ?_
      refine Goes.retI X (by simp) rfl ?_
      exact ⟨by simp [own_kd, own_cl3, h196, h199], rfl⟩
set_option maxRecDepth 65536 in
set_option maxHeartbeats 40000000 in
theorem D_kind2 (l : Launch) (Z : State) (a0 : Array Value) (h0 : Heap) (hw : ∀ d ∈ tables_1, d.before a0 Z = true) (c' : Int32) : Does l Z a0 h0 y_12 method_5_code 2 (some .boolean) ({ frames := 0, cells := 0, slots := 0, locals := 0 } : Room) #[.int c', .int (2 : Int32)] [] (fun v F => v = some (.int (Int32.ofNat (own_kd (own_cl c') 2))) ∧ F = []) := by
  refine Does.mk #[.val (.int c'), .val (.int (2 : Int32))] (plainFor_of_name (by decide +kernel)) (fun m => by first | (simp [entryFrame, mkF, argsToLocals, Value.category]; done) | rfl) ?_
  intro p e s m args below meth c h X
  show Goes _ _ _ _ _ _ _ _ _ _ _ _ _ _ _ _ _ _ [] 0 0 (mkF m 0 #[.val (.int c'), .val (.int (2 : Int32))] [])
  refine Goes.runS X [(.iload_n 1, 1)] (S' := [.int (2 : Int32)]) (pc' := 1) rfl ?_
  refine Goes.if1 X (pc' := 16) (o := 15) (cd := .ne) (fun _ => ?_) (fun q => absurd q (by decide))
  refine Goes.runS X [(.iload_n 1, 1), (.iconst 1, 1)] (S' := [.int (1 : Int32), .int (2 : Int32)]) (pc' := 18) rfl ?_
  refine Goes.if2 X (pc' := 39) (o := 21) (cd := .ne) (fun _ => ?_) (fun q => absurd q (by decide))
  refine Goes.runS X [(.iload_n 1, 1), (.iconst 2, 1)] (S' := [.int (2 : Int32), .int (2 : Int32)]) (pc' := 41) rfl ?_
  refine Goes.if2 X (pc' := 62) (o := 21) (cd := .ne) (fun q => absurd q (by decide)) (fun _ => ?_)
  refine Goes.runS X [(.iload_n 0, 1), (.bipush 43, 2)] (S' := [.int (43 : Int32), .int c']) (pc' := 47) rfl ?_
  refine Goes.if2 X (pc' := 56) (o := 9) (cd := .eq) (fun q200 => ?_) (fun q200 => ?_)
  · have h201 : c' = (43 : Int32) := by simpa [if_icmp.holds] using q200
    refine Goes.runS X [(.iconst 1, 1)] (S' := [.int (1 : Int32)]) (pc' := 57) rfl ?_
    refine Goes.goto X (o := 4) (pc' := 61) ?_
    refine Goes.retI X (by simp) rfl ?_
    exact ⟨by simp [own_kd, own_cl01, h201], rfl⟩
  · have h202 : ¬ c' = (43 : Int32) := by simpa [if_icmp.holds] using q200
    refine Goes.runS X [(.iload_n 0, 1), (.bipush 45, 2)] (S' := [.int (45 : Int32), .int c']) (pc' := 53) rfl ?_
    refine Goes.if2 X (pc' := 60) (o := 7) (cd := .ne) (fun q203 => ?_) (fun q203 => ?_)
    · have h204 : ¬ c' = (45 : Int32) := by simpa [if_icmp.holds] using q203
      refine Goes.runS X [(.iconst 0, 1)] (S' := [.int (0 : Int32)]) (pc' := 61) rfl ?_
      refine Goes.retI X (by simp) rfl ?_
      exact ⟨by simp [own_kd, own_cl01, h202, h204], rfl⟩
    · have h205 : c' = (45 : Int32) := by simpa [if_icmp.holds] using q203
      refine Goes.runS X [(.iconst 1, 1)] (S' := [.int (1 : Int32)]) (pc' := 57) rfl ?_
      refine Goes.goto X (o := 4) (pc' := 61) ?_
      refine Goes.retI X (by simp) rfl ?_
      exact ⟨by simp [own_kd, own_cl01, h202, h205], rfl⟩
set_option maxRecDepth 65536 in
set_option maxHeartbeats 40000000 in
theorem D_kind3 (l : Launch) (Z : State) (a0 : Array Value) (h0 : Heap) (hw : ∀ d ∈ tables_1, d.before a0 Z = true) (c' : Int32) : Does l Z a0 h0 y_12 method_5_code 2 (some .boolean) ({ frames := 1, cells := 0, slots := 0, locals := 12 } : Room) #[.int c', .int (3 : Int32)] [] (fun v F => v = some (.int (Int32.ofNat (own_kd (own_cl c') 3))) ∧ F = []) := by
  refine Does.mk #[.val (.int c'), .val (.int (3 : Int32))] (plainFor_of_name (by decide +kernel)) (fun m => by first | (simp [entryFrame, mkF, argsToLocals, Value.category]; done) | rfl) ?_
  intro p e s m args below meth c h X
  show Goes _ _ _ _ _ _ _ _ _ _ _ _ _ _ _ _ _ _ [] 0 0 (mkF m 0 #[.val (.int c'), .val (.int (3 : Int32))] [])
  refine Goes.runS X [(.iload_n 1, 1)] (S' := [.int (3 : Int32)]) (pc' := 1) rfl ?_
  refine Goes.if1 X (pc' := 16) (o := 15) (cd := .ne) (fun _ => ?_) (fun q => absurd q (by decide))
  refine Goes.runS X [(.iload_n 1, 1), (.iconst 1, 1)] (S' := [.int (1 : Int32), .int (3 : Int32)]) (pc' := 18) rfl ?_
  refine Goes.if2 X (pc' := 39) (o := 21) (cd := .ne) (fun _ => ?_) (fun q => absurd q (by decide))
  refine Goes.runS X [(.iload_n 1, 1), (.iconst 2, 1)] (S' := [.int (2 : Int32), .int (3 : Int32)]) (pc' := 41) rfl ?_
  refine Goes.if2 X (pc' := 62) (o := 21) (cd := .ne) (fun _ => ?_) (fun q => absurd q (by decide))
  refine Goes.runS X [(.iload_n 0, 1)] (S' := [.int c']) (pc' := 63) rfl ?_
  refine Goes.callS X 0 [] [] (D_dg l Z a0 h0 hw c') (wd hw 86 rfl) (wd hw 87 rfl) (wd hw 4 rfl) (wd hw 88 rfl) pd_y_13 rfl (st := []) rfl rfl (G := []) rfl rfl ?_
  rintro _ _ ⟨rfl, rfl⟩
  refine Goes.if1 X (pc' := 103) (o := 37) (cd := .ne) (fun q206 => ?_) (fun q206 => ?_)
  · have h207 : ¬ (own_dig c') = 0 := by simpa [ifCond.holds] using q206
    refine Goes.runS X [(.iconst 0, 1)] (S' := [.int (0 : Int32)]) (pc' := 104) rfl ?_
    refine Goes.retI X (by simp) rfl ?_
    exact ⟨by simp [own_kd, own_cl5, h207], rfl⟩
  · have h208 : (own_dig c') = 0 := by simpa [ifCond.holds] using q206
    refine Goes.runS X [(.iload_n 0, 1), (.bipush 46, 2)] (S' := [.int (46 : Int32), .int c']) (pc' := 72) rfl ?_
    refine Goes.if2 X (pc' := 103) (o := 31) (cd := .eq) (fun q209 => ?_) (fun q209 => ?_)
    · have h210 : c' = (46 : Int32) := by simpa [if_icmp.holds] using q209
      refine Goes.runS X [(.iconst 0, 1)] (S' := [.int (0 : Int32)]) (pc' := 104) rfl ?_
      refine Goes.retI X (by simp) rfl ?_
      exact ⟨by simp [own_kd, own_cl5, h208, h210], rfl⟩
    · have h211 : ¬ c' = (46 : Int32) := by simpa [if_icmp.holds] using q209
      refine Goes.runS X [(.iload_n 0, 1), (.bipush 101, 2)] (S' := [.int (101 : Int32), .int c']) (pc' := 78) rfl ?_
      refine Goes.if2 X (pc' := 103) (o := 25) (cd := .eq) (fun q212 => ?_) (fun q212 => ?_)
      · have h213 : c' = (101 : Int32) := by simpa [if_icmp.holds] using q212
        refine Goes.runS X [(.iconst 0, 1)] (S' := [.int (0 : Int32)]) (pc' := 104) rfl ?_
        refine Goes.retI X (by simp) rfl ?_
        exact ⟨by simp [own_kd, own_cl5, h208, h211, h213], rfl⟩
      · have h214 : ¬ c' = (101 : Int32) := by simpa [if_icmp.holds] using q212
        refine Goes.runS X [(.iload_n 0, 1), (.bipush 69, 2)] (S' := [.int (69 : Int32), .int c']) (pc' := 84) rfl ?_
        refine Goes.if2 X (pc' := 103) (o := 19) (cd := .eq) (fun q215 => ?_) (fun q215 => ?_)
        · have h216 : c' = (69 : Int32) := by simpa [if_icmp.holds] using q215
          refine Goes.runS X [(.iconst 0, 1)] (S' := [.int (0 : Int32)]) (pc' := 104) rfl ?_
          refine Goes.retI X (by simp) rfl ?_
          exact ⟨by simp [own_kd, own_cl5, h208, h211, h214, h216], rfl⟩
        · have h217 : ¬ c' = (69 : Int32) := by simpa [if_icmp.holds] using q215
          refine Goes.runS X [(.iload_n 0, 1), (.bipush 43, 2)] (S' := [.int (43 : Int32), .int c']) (pc' := 90) rfl ?_
          refine Goes.if2 X (pc' := 103) (o := 13) (cd := .eq) (fun q218 => ?_) (fun q218 => ?_)
          · have h219 : c' = (43 : Int32) := by simpa [if_icmp.holds] using q218
            refine Goes.runS X [(.iconst 0, 1)] (S' := [.int (0 : Int32)]) (pc' := 104) rfl ?_
            refine Goes.retI X (by simp) rfl ?_
            exact ⟨by simp [own_kd, own_cl5, h208, h211, h214, h217, h219], rfl⟩
          · have h220 : ¬ c' = (43 : Int32) := by simpa [if_icmp.holds] using q218
            refine Goes.runS X [(.iload_n 0, 1), (.bipush 45, 2)] (S' := [.int (45 : Int32), .int c']) (pc' := 96) rfl ?_
            refine Goes.if2 X (pc' := 103) (o := 7) (cd := .eq) (fun q221 => ?_) (fun q221 => ?_)
            · have h222 : c' = (45 : Int32) := by simpa [if_icmp.holds] using q221
              refine Goes.runS X [(.iconst 0, 1)] (S' := [.int (0 : Int32)]) (pc' := 104) rfl ?_
              refine Goes.retI X (by simp) rfl ?_
              exact ⟨by simp [own_kd, own_cl5, h208, h211, h214, h217, h220, h222], rfl⟩
            · have h223 : ¬ c' = (45 : Int32) := by simpa [if_icmp.holds] using q221
              refine Goes.runS X [(.iconst 1, 1)] (S' := [.int (1 : Int32)]) (pc' := 100) rfl ?_
              refine Goes.goto X (o := 4) (pc' := 104) ?_
              refine Goes.retI X (by simp) rfl ?_
              exact ⟨by simp [own_kd, own_cl5, h208, h211, h214, h217, h220, h223], rfl⟩
abbrev oC6 (c0 c1 c2 c3 c4 c5 : Int32) : OObj := ar "[C" .char [.int c0, .int c1, .int c2, .int c3, .int c4, .int c5]
theorem own_j7 : ∀ j : Nat, j < 7 → (Int32.ofNat j).toNatClampNeg = j ∧ ¬ (Int32.ofNat j) < 0 := by decide
set_option maxRecDepth 65536 in
set_option maxHeartbeats 40000000 in
theorem D_at0 (l : Launch) (Z : State) (a0 : Array Value) (h0 : Heap) (hw : ∀ d ∈ tables_1, d.before a0 Z = true) (b : Addr) (vs : List Value) (f n j : Nat) (hf : f ≤ 1) (hn : n ≤ 6) (hj : j < 6) (c' : Int32) (hv : vs[j]? = some (.int c')) : Does l Z a0 h0 y_11 method_6_code 5 (some .int) ({ frames := 2, cells := 0, slots := 0, locals := 25 } : Room) #[.ref b, .int (Int32.ofNat f), .int (Int32.ofNat n), .int (Int32.ofNat j), .int (0 : Int32)] [(b, ar "[C" .char vs)] (fun v F => v = some (.int (Int32.ofNat (own_atN f n j (own_cl c') 0))) ∧ F = [(b, ar "[C" .char vs)]) := by
  refine Does.mk #[.val (.ref b), .val (.int (Int32.ofNat f)), .val (.int (Int32.ofNat n)), .val (.int (Int32.ofNat j)), .val (.int (0 : Int32))] (plainFor_of_name (by decide +kernel)) (fun m => by first | (simp [entryFrame, mkF, argsToLocals, Value.category]; done) | rfl) ?_
  intro p e s m args below meth c h X
  show Goes _ _ _ _ _ _ _ _ _ _ _ _ _ _ _ _ _ _ [(b, ar "[C" .char vs)] 0 0 (mkF m 0 #[.val (.ref b), .val (.int (Int32.ofNat f)), .val (.int (Int32.ofNat n)), .val (.int (Int32.ofNat j)), .val (.int (0 : Int32))] [])
  refine Goes.runS X [(.iload_n 3, 1), (.iload_n 1, 1)] (S' := [.int (Int32.ofNat f), .int (Int32.ofNat j)]) (pc' := 2) rfl ?_
  refine Goes.if2 X (pc' := 25) (o := 23) (cd := .lt) (fun q224 => ?_) (fun q224 => ?_)
  · have h225 := own_sT (own_s6 j (by omega) f (by omega)) q224
    refine Goes.runS X [(.iconst 0, 1)] (S' := [.int (0 : Int32)]) (pc' := 26) rfl ?_
    refine Goes.retI X (by simp) rfl ?_
    exact ⟨by rw [own_atN, if_pos h225]; rfl, rfl⟩
  · have h226 := own_sF (own_s6 j (by omega) f (by omega)) q224
    refine Goes.runS X [(.iload_n 3, 1), (.iload_n 2, 1)] (S' := [.int (Int32.ofNat n), .int (Int32.ofNat j)]) (pc' := 7) rfl ?_
    refine Goes.if2 X (pc' := 25) (o := 18) (cd := .ge) (fun q227 => ?_) (fun q227 => ?_)
    · have h228 := own_sT (own_s7 j (by omega) n (by omega)) q227
      refine Goes.runS X [(.iconst 0, 1)] (S' := [.int (0 : Int32)]) (pc' := 26) rfl ?_
      refine Goes.retI X (by simp) rfl ?_
      exact ⟨by rw [own_atN, if_neg h226, if_neg h228]; rfl, rfl⟩
    · have h229 := own_sF (own_s7 j (by omega) n (by omega)) q227
      refine Goes.runS X [(.aload_n 0, 1), (.iload_n 3, 1)] (S' := [.int (Int32.ofNat j), .ref b]) (pc' := 12) rfl ?_
      refine Goes.caload X 0 j rfl (own_j7 j (by omega)).1 (own_j7 j (by omega)).2 hv ?_
      show Goes _ _ _ _ _ _ _ _ _ _ _ _ _ _ _ _ _ _ [(b, ar "[C" .char vs)] 0 0 (mkF m 13 #[.val (.ref b), .val (.int (Int32.ofNat f)), .val (.int (Int32.ofNat n)), .val (.int (Int32.ofNat j)), .val (.int (0 : Int32))] [.int c'])
      refine Goes.runS X [(.iload 4, 2)] (S' := [.int (0 : Int32), .int c']) (pc' := 15) rfl ?_
      refine Goes.callS X 0 [] [0] (D_kind0 l Z a0 h0 hw c') (wd hw 83 rfl) (wd hw 84 rfl) (wd hw 4 rfl) (wd hw 85 rfl) pd_y_12 rfl (st := []) rfl rfl (G := [(b, ar "[C" .char vs)]) rfl rfl ?_
      rintro _ _ ⟨rfl, rfl⟩
      refine Goes.bool1 X (cd := .eq) (o := 7) (o2 := 4) (pc' := 25) (pc2 := 26) (by decide +kernel) (by decide +kernel) (by decide +kernel) rfl (fun r hr => ?_)
      rw [own_s8 _ (own_kd_le _ _)] at hr
      subst hr
      show Goes _ _ _ _ _ _ _ _ _ _ _ _ _ _ _ _ _ _ [(b, ar "[C" .char vs)] 0 0 (mkF m 26 #[.val (.ref b), .val (.int (Int32.ofNat f)), .val (.int (Int32.ofNat n)), .val (.int (Int32.ofNat j)), .val (.int (0 : Int32))] [.int (Int32.ofNat (own_kd (own_cl c') 0))])
      refine Goes.retI X (by simp) rfl ?_
      exact ⟨by rw [own_atN, if_neg h226, if_pos (Classical.not_not.mp h229)], rfl⟩
set_option maxRecDepth 65536 in
set_option maxHeartbeats 40000000 in
theorem D_at1 (l : Launch) (Z : State) (a0 : Array Value) (h0 : Heap) (hw : ∀ d ∈ tables_1, d.before a0 Z = true) (b : Addr) (vs : List Value) (f n j : Nat) (hf : f ≤ 1) (hn : n ≤ 6) (hj : j < 6) (c' : Int32) (hv : vs[j]? = some (.int c')) : Does l Z a0 h0 y_11 method_6_code 5 (some .int) ({ frames := 2, cells := 0, slots := 0, locals := 25 } : Room) #[.ref b, .int (Int32.ofNat f), .int (Int32.ofNat n), .int (Int32.ofNat j), .int (1 : Int32)] [(b, ar "[C" .char vs)] (fun v F => v = some (.int (Int32.ofNat (own_atN f n j (own_cl c') 1))) ∧ F = [(b, ar "[C" .char vs)]) := by
  refine Does.mk #[.val (.ref b), .val (.int (Int32.ofNat f)), .val (.int (Int32.ofNat n)), .val (.int (Int32.ofNat j)), .val (.int (1 : Int32))] (plainFor_of_name (by decide +kernel)) (fun m => by first | (simp [entryFrame, mkF, argsToLocals, Value.category]; done) | rfl) ?_
  intro p e s m args below meth c h X
  show Goes _ _ _ _ _ _ _ _ _ _ _ _ _ _ _ _ _ _ [(b, ar "[C" .char vs)] 0 0 (mkF m 0 #[.val (.ref b), .val (.int (Int32.ofNat f)), .val (.int (Int32.ofNat n)), .val (.int (Int32.ofNat j)), .val (.int (1 : Int32))] [])
  refine Goes.runS X [(.iload_n 3, 1), (.iload_n 1, 1)] (S' := [.int (Int32.ofNat f), .int (Int32.ofNat j)]) (pc' := 2) rfl ?_
  refine Goes.if2 X (pc' := 25) (o := 23) (cd := .lt) (fun q230 => ?_) (fun q230 => ?_)
  · have h231 := own_sT (own_s6 j (by omega) f (by omega)) q230
    refine Goes.runS X [(.iconst 0, 1)] (S' := [.int (0 : Int32)]) (pc' := 26) rfl ?_
    refine Goes.retI X (by simp) rfl ?_
    exact ⟨by rw [own_atN, if_pos h231]; rfl, rfl⟩
  · have h232 := own_sF (own_s6 j (by omega) f (by omega)) q230
    refine Goes.runS X [(.iload_n 3, 1), (.iload_n 2, 1)] (S' := [.int (Int32.ofNat n), .int (Int32.ofNat j)]) (pc' := 7) rfl ?_
    refine Goes.if2 X (pc' := 25) (o := 18) (cd := .ge) (fun q233 => ?_) (fun q233 => ?_)
    · have h234 := own_sT (own_s7 j (by omega) n (by omega)) q233
      refine Goes.runS X [(.iconst 0, 1)] (S' := [.int (0 : Int32)]) (pc' := 26) rfl ?_
      refine Goes.retI X (by simp) rfl ?_
      exact ⟨by rw [own_atN, if_neg h232, if_neg h234]; rfl, rfl⟩
    · have h235 := own_sF (own_s7 j (by omega) n (by omega)) q233
      refine Goes.runS X [(.aload_n 0, 1), (.iload_n 3, 1)] (S' := [.int (Int32.ofNat j), .ref b]) (pc' := 12) rfl ?_
      refine Goes.caload X 0 j rfl (own_j7 j (by omega)).1 (own_j7 j (by omega)).2 hv ?_
      show Goes _ _ _ _ _ _ _ _ _ _ _ _ _ _ _ _ _ _ [(b, ar "[C" .char vs)] 0 0 (mkF m 13 #[.val (.ref b), .val (.int (Int32.ofNat f)), .val (.int (Int32.ofNat n)), .val (.int (Int32.ofNat j)), .val (.int (1 : Int32))] [.int c'])
      refine Goes.runS X [(.iload 4, 2)] (S' := [.int (1 : Int32), .int c']) (pc' := 15) rfl ?_
      refine Goes.callS X 0 [] [0] (D_kind1 l Z a0 h0 hw c') (wd hw 83 rfl) (wd hw 84 rfl) (wd hw 4 rfl) (wd hw 85 rfl) pd_y_12 rfl (st := []) rfl rfl (G := [(b, ar "[C" .char vs)]) rfl rfl ?_
      rintro _ _ ⟨rfl, rfl⟩
      refine Goes.bool1 X (cd := .eq) (o := 7) (o2 := 4) (pc' := 25) (pc2 := 26) (by decide +kernel) (by decide +kernel) (by decide +kernel) rfl (fun r hr => ?_)
      rw [own_s8 _ (own_kd_le _ _)] at hr
      subst hr
      show Goes _ _ _ _ _ _ _ _ _ _ _ _ _ _ _ _ _ _ [(b, ar "[C" .char vs)] 0 0 (mkF m 26 #[.val (.ref b), .val (.int (Int32.ofNat f)), .val (.int (Int32.ofNat n)), .val (.int (Int32.ofNat j)), .val (.int (1 : Int32))] [.int (Int32.ofNat (own_kd (own_cl c') 1))])
      refine Goes.retI X (by simp) rfl ?_
      exact ⟨by rw [own_atN, if_neg h232, if_pos (Classical.not_not.mp h235)], rfl⟩
set_option maxRecDepth 65536 in
set_option maxHeartbeats 40000000 in
theorem D_at2 (l : Launch) (Z : State) (a0 : Array Value) (h0 : Heap) (hw : ∀ d ∈ tables_1, d.before a0 Z = true) (b : Addr) (vs : List Value) (f n j : Nat) (hf : f ≤ 1) (hn : n ≤ 6) (hj : j < 6) (c' : Int32) (hv : vs[j]? = some (.int c')) : Does l Z a0 h0 y_11 method_6_code 5 (some .int) ({ frames := 2, cells := 0, slots := 0, locals := 25 } : Room) #[.ref b, .int (Int32.ofNat f), .int (Int32.ofNat n), .int (Int32.ofNat j), .int (2 : Int32)] [(b, ar "[C" .char vs)] (fun v F => v = some (.int (Int32.ofNat (own_atN f n j (own_cl c') 2))) ∧ F = [(b, ar "[C" .char vs)]) := by
  refine Does.mk #[.val (.ref b), .val (.int (Int32.ofNat f)), .val (.int (Int32.ofNat n)), .val (.int (Int32.ofNat j)), .val (.int (2 : Int32))] (plainFor_of_name (by decide +kernel)) (fun m => by first | (simp [entryFrame, mkF, argsToLocals, Value.category]; done) | rfl) ?_
  intro p e s m args below meth c h X
  show Goes _ _ _ _ _ _ _ _ _ _ _ _ _ _ _ _ _ _ [(b, ar "[C" .char vs)] 0 0 (mkF m 0 #[.val (.ref b), .val (.int (Int32.ofNat f)), .val (.int (Int32.ofNat n)), .val (.int (Int32.ofNat j)), .val (.int (2 : Int32))] [])
  refine Goes.runS X [(.iload_n 3, 1), (.iload_n 1, 1)] (S' := [.int (Int32.ofNat f), .int (Int32.ofNat j)]) (pc' := 2) rfl ?_
  refine Goes.if2 X (pc' := 25) (o := 23) (cd := .lt) (fun q236 => ?_) (fun q236 => ?_)
  · have h237 := own_sT (own_s6 j (by omega) f (by omega)) q236
    refine Goes.runS X [(.iconst 0, 1)] (S' := [.int (0 : Int32)]) (pc' := 26) rfl ?_
    refine Goes.retI X (by simp) rfl ?_
    exact ⟨by rw [own_atN, if_pos h237]; rfl, rfl⟩
  · have h238 := own_sF (own_s6 j (by omega) f (by omega)) q236
    refine Goes.runS X [(.iload_n 3, 1), (.iload_n 2, 1)] (S' := [.int (Int32.ofNat n), .int (Int32.ofNat j)]) (pc' := 7) rfl ?_
    refine Goes.if2 X (pc' := 25) (o := 18) (cd := .ge) (fun q239 => ?_) (fun q239 => ?_)
    · have h240 := own_sT (own_s7 j (by omega) n (by omega)) q239
      refine Goes.runS X [(.iconst 0, 1)] (S' := [.int (0 : Int32)]) (pc' := 26) rfl ?_
      refine Goes.retI X (by simp) rfl ?_
      exact ⟨by rw [own_atN, if_neg h238, if_neg h240]; rfl, rfl⟩
    · have h241 := own_sF (own_s7 j (by omega) n (by omega)) q239
      refine Goes.runS X [(.aload_n 0, 1), (.iload_n 3, 1)] (S' := [.int (Int32.ofNat j), .ref b]) (pc' := 12) rfl ?_
      refine Goes.caload X 0 j rfl (own_j7 j (by omega)).1 (own_j7 j (by omega)).2 hv ?_
      show Goes _ _ _ _ _ _ _ _ _ _ _ _ _ _ _ _ _ _ [(b, ar "[C" .char vs)] 0 0 (mkF m 13 #[.val (.ref b), .val (.int (Int32.ofNat f)), .val (.int (Int32.ofNat n)), .val (.int (Int32.ofNat j)), .val (.int (2 : Int32))] [.int c'])
      refine Goes.runS X [(.iload 4, 2)] (S' := [.int (2 : Int32), .int c']) (pc' := 15) rfl ?_
      refine Goes.callS X 0 [] [0] (D_kind2 l Z a0 h0 hw c') (wd hw 83 rfl) (wd hw 84 rfl) (wd hw 4 rfl) (wd hw 85 rfl) pd_y_12 rfl (st := []) rfl rfl (G := [(b, ar "[C" .char vs)]) rfl rfl ?_
      rintro _ _ ⟨rfl, rfl⟩
      refine Goes.bool1 X (cd := .eq) (o := 7) (o2 := 4) (pc' := 25) (pc2 := 26) (by decide +kernel) (by decide +kernel) (by decide +kernel) rfl (fun r hr => ?_)
      rw [own_s8 _ (own_kd_le _ _)] at hr
      subst hr
      show Goes _ _ _ _ _ _ _ _ _ _ _ _ _ _ _ _ _ _ [(b, ar "[C" .char vs)] 0 0 (mkF m 26 #[.val (.ref b), .val (.int (Int32.ofNat f)), .val (.int (Int32.ofNat n)), .val (.int (Int32.ofNat j)), .val (.int (2 : Int32))] [.int (Int32.ofNat (own_kd (own_cl c') 2))])
      refine Goes.retI X (by simp) rfl ?_
      exact ⟨by rw [own_atN, if_neg h238, if_pos (Classical.not_not.mp h241)], rfl⟩
set_option maxRecDepth 65536 in
set_option maxHeartbeats 40000000 in
theorem D_at3 (l : Launch) (Z : State) (a0 : Array Value) (h0 : Heap) (hw : ∀ d ∈ tables_1, d.before a0 Z = true) (b : Addr) (vs : List Value) (f n j : Nat) (hf : f ≤ 1) (hn : n ≤ 6) (hj : j < 6) (c' : Int32) (hv : vs[j]? = some (.int c')) : Does l Z a0 h0 y_11 method_6_code 5 (some .int) ({ frames := 2, cells := 0, slots := 0, locals := 25 } : Room) #[.ref b, .int (Int32.ofNat f), .int (Int32.ofNat n), .int (Int32.ofNat j), .int (3 : Int32)] [(b, ar "[C" .char vs)] (fun v F => v = some (.int (Int32.ofNat (own_atN f n j (own_cl c') 3))) ∧ F = [(b, ar "[C" .char vs)]) := by
  refine Does.mk #[.val (.ref b), .val (.int (Int32.ofNat f)), .val (.int (Int32.ofNat n)), .val (.int (Int32.ofNat j)), .val (.int (3 : Int32))] (plainFor_of_name (by decide +kernel)) (fun m => by first | (simp [entryFrame, mkF, argsToLocals, Value.category]; done) | rfl) ?_
  intro p e s m args below meth c h X
  show Goes _ _ _ _ _ _ _ _ _ _ _ _ _ _ _ _ _ _ [(b, ar "[C" .char vs)] 0 0 (mkF m 0 #[.val (.ref b), .val (.int (Int32.ofNat f)), .val (.int (Int32.ofNat n)), .val (.int (Int32.ofNat j)), .val (.int (3 : Int32))] [])
  refine Goes.runS X [(.iload_n 3, 1), (.iload_n 1, 1)] (S' := [.int (Int32.ofNat f), .int (Int32.ofNat j)]) (pc' := 2) rfl ?_
  refine Goes.if2 X (pc' := 25) (o := 23) (cd := .lt) (fun q242 => ?_) (fun q242 => ?_)
  · have h243 := own_sT (own_s6 j (by omega) f (by omega)) q242
    refine Goes.runS X [(.iconst 0, 1)] (S' := [.int (0 : Int32)]) (pc' := 26) rfl ?_
    refine Goes.retI X (by simp) rfl ?_
    exact ⟨by rw [own_atN, if_pos h243]; rfl, rfl⟩
  · have h244 := own_sF (own_s6 j (by omega) f (by omega)) q242
    refine Goes.runS X [(.iload_n 3, 1), (.iload_n 2, 1)] (S' := [.int (Int32.ofNat n), .int (Int32.ofNat j)]) (pc' := 7) rfl ?_
    refine Goes.if2 X (pc' := 25) (o := 18) (cd := .ge) (fun q245 => ?_) (fun q245 => ?_)
    · have h246 := own_sT (own_s7 j (by omega) n (by omega)) q245
      refine Goes.runS X [(.iconst 0, 1)] (S' := [.int (0 : Int32)]) (pc' := 26) rfl ?_
      refine Goes.retI X (by simp) rfl ?_
      exact ⟨by rw [own_atN, if_neg h244, if_neg h246]; rfl, rfl⟩
    · have h247 := own_sF (own_s7 j (by omega) n (by omega)) q245
      refine Goes.runS X [(.aload_n 0, 1), (.iload_n 3, 1)] (S' := [.int (Int32.ofNat j), .ref b]) (pc' := 12) rfl ?_
      refine Goes.caload X 0 j rfl (own_j7 j (by omega)).1 (own_j7 j (by omega)).2 hv ?_
      show Goes _ _ _ _ _ _ _ _ _ _ _ _ _ _ _ _ _ _ [(b, ar "[C" .char vs)] 0 0 (mkF m 13 #[.val (.ref b), .val (.int (Int32.ofNat f)), .val (.int (Int32.ofNat n)), .val (.int (Int32.ofNat j)), .val (.int (3 : Int32))] [.int c'])
      refine Goes.runS X [(.iload 4, 2)] (S' := [.int (3 : Int32), .int c']) (pc' := 15) rfl ?_
      refine Goes.callS X 0 [] [0] (D_kind3 l Z a0 h0 hw c') (wd hw 83 rfl) (wd hw 84 rfl) (wd hw 4 rfl) (wd hw 85 rfl) pd_y_12 rfl (st := []) rfl rfl (G := [(b, ar "[C" .char vs)]) rfl rfl ?_
      rintro _ _ ⟨rfl, rfl⟩
      refine Goes.bool1 X (cd := .eq) (o := 7) (o2 := 4) (pc' := 25) (pc2 := 26) (by decide +kernel) (by decide +kernel) (by decide +kernel) rfl (fun r hr => ?_)
      rw [own_s8 _ (own_kd_le _ _)] at hr
      subst hr
      show Goes _ _ _ _ _ _ _ _ _ _ _ _ _ _ _ _ _ _ [(b, ar "[C" .char vs)] 0 0 (mkF m 26 #[.val (.ref b), .val (.int (Int32.ofNat f)), .val (.int (Int32.ofNat n)), .val (.int (Int32.ofNat j)), .val (.int (3 : Int32))] [.int (Int32.ofNat (own_kd (own_cl c') 3))])
      refine Goes.retI X (by simp) rfl ?_
      exact ⟨by rw [own_atN, if_neg h244, if_pos (Classical.not_not.mp h247)], rfl⟩
set_option maxRecDepth 65536 in
set_option maxHeartbeats 40000000 in
theorem D_cnt0 (l : Launch) (Z : State) (a0 : Array Value) (h0 : Heap) (hw : ∀ d ∈ tables_1, d.before a0 Z = true) (b : Addr) (c0 c1 c2 c3 c4 c5 : Int32) (f n : Nat) (hf : f ≤ 1) (hn : n ≤ 6) : Does l Z a0 h0 y_10 method_7_code 4 (some .int) ({ frames := 3, cells := 0, slots := 0, locals := 42 } : Room) #[.ref b, .int (Int32.ofNat f), .int (Int32.ofNat n), .int (0 : Int32)] [(b, oC6 c0 c1 c2 c3 c4 c5)] (fun v F => v = some (.int (Int32.ofNat (own_cntN f n 0 (own_cl c0) (own_cl c1) (own_cl c2) (own_cl c3) (own_cl c4) (own_cl c5)))) ∧ F = [(b, oC6 c0 c1 c2 c3 c4 c5)]) := by
  refine Does.mk #[.val (.ref b), .val (.int (Int32.ofNat f)), .val (.int (Int32.ofNat n)), .val (.int (0 : Int32))] (plainFor_of_name (by decide +kernel)) (fun m => by first | (simp [entryFrame, mkF, argsToLocals, Value.category]; done) | rfl) ?_
  intro p e s m args below meth c h X
  show Goes _ _ _ _ _ _ _ _ _ _ _ _ _ _ _ _ _ _ [(b, oC6 c0 c1 c2 c3 c4 c5)] 0 0 (mkF m 0 #[.val (.ref b), .val (.int (Int32.ofNat f)), .val (.int (Int32.ofNat n)), .val (.int (0 : Int32))] [])
  refine Goes.runS X [(.aload_n 0, 1), (.iload_n 1, 1), (.iload_n 2, 1), (.iconst 0, 1), (.iload_n 3, 1)] (S' := [.int (0 : Int32), .int (0 : Int32), .int (Int32.ofNat n), .int (Int32.ofNat f), .ref b]) (pc' := 5) rfl ?_
  refine Goes.callS X 0 [0] [] (D_at0 l Z a0 h0 hw b [.int c0, .int c1, .int c2, .int c3, .int c4, .int c5] f n 0 hf hn (by decide) c0 rfl) (wd hw 80 rfl) (wd hw 81 rfl) (wd hw 4 rfl) (wd hw 82 rfl) pd_y_11 rfl (st := []) rfl rfl (G := []) rfl rfl ?_
  rintro _ _ ⟨rfl, rfl⟩
  refine Goes.runS X [(.aload_n 0, 1), (.iload_n 1, 1), (.iload_n 2, 1), (.iconst 1, 1), (.iload_n 3, 1)] (S' := [.int (0 : Int32), .int (1 : Int32), .int (Int32.ofNat n), .int (Int32.ofNat f), .ref b, .int (Int32.ofNat (own_atN f n 0 (own_cl c0) 0))]) (pc' := 13) rfl ?_
  refine Goes.callS X 1 [0] [] (D_at0 l Z a0 h0 hw b [.int c0, .int c1, .int c2, .int c3, .int c4, .int c5] f n 1 hf hn (by decide) c1 rfl) (wd hw 80 rfl) (wd hw 81 rfl) (wd hw 4 rfl) (wd hw 82 rfl) pd_y_11 rfl (st := [.int (Int32.ofNat (own_atN f n 0 (own_cl c0) 0))]) rfl rfl (G := []) rfl rfl ?_
  rintro _ _ ⟨rfl, rfl⟩
  refine Goes.runS X [(.iadd, 1), (.aload_n 0, 1), (.iload_n 1, 1), (.iload_n 2, 1), (.iconst 2, 1), (.iload_n 3, 1)] (S' := [.int (0 : Int32), .int (2 : Int32), .int (Int32.ofNat n), .int (Int32.ofNat f), .ref b, .int ((Int32.ofNat (own_atN f n 0 (own_cl c0) 0)) + (Int32.ofNat (own_atN f n 1 (own_cl c1) 0)))]) (pc' := 22) rfl ?_
  refine Goes.callS X 1 [0] [] (D_at0 l Z a0 h0 hw b [.int c0, .int c1, .int c2, .int c3, .int c4, .int c5] f n 2 hf hn (by decide) c2 rfl) (wd hw 80 rfl) (wd hw 81 rfl) (wd hw 4 rfl) (wd hw 82 rfl) pd_y_11 rfl (st := [.int ((Int32.ofNat (own_atN f n 0 (own_cl c0) 0)) + (Int32.ofNat (own_atN f n 1 (own_cl c1) 0)))]) rfl rfl (G := []) rfl rfl ?_
  rintro _ _ ⟨rfl, rfl⟩
  refine Goes.runS X [(.iadd, 1), (.aload_n 0, 1), (.iload_n 1, 1), (.iload_n 2, 1), (.iconst 3, 1), (.iload_n 3, 1)] (S' := [.int (0 : Int32), .int (3 : Int32), .int (Int32.ofNat n), .int (Int32.ofNat f), .ref b, .int (((Int32.ofNat (own_atN f n 0 (own_cl c0) 0)) + (Int32.ofNat (own_atN f n 1 (own_cl c1) 0))) + (Int32.ofNat (own_atN f n 2 (own_cl c2) 0)))]) (pc' := 31) rfl ?_
  refine Goes.callS X 1 [0] [] (D_at0 l Z a0 h0 hw b [.int c0, .int c1, .int c2, .int c3, .int c4, .int c5] f n 3 hf hn (by decide) c3 rfl) (wd hw 80 rfl) (wd hw 81 rfl) (wd hw 4 rfl) (wd hw 82 rfl) pd_y_11 rfl (st := [.int (((Int32.ofNat (own_atN f n 0 (own_cl c0) 0)) + (Int32.ofNat (own_atN f n 1 (own_cl c1) 0))) + (Int32.ofNat (own_atN f n 2 (own_cl c2) 0)))]) rfl rfl (G := []) rfl rfl ?_
  rintro _ _ ⟨rfl, rfl⟩
  refine Goes.runS X [(.iadd, 1), (.aload_n 0, 1), (.iload_n 1, 1), (.iload_n 2, 1), (.iconst 4, 1), (.iload_n 3, 1)] (S' := [.int (0 : Int32), .int (4 : Int32), .int (Int32.ofNat n), .int (Int32.ofNat f), .ref b, .int ((((Int32.ofNat (own_atN f n 0 (own_cl c0) 0)) + (Int32.ofNat (own_atN f n 1 (own_cl c1) 0))) + (Int32.ofNat (own_atN f n 2 (own_cl c2) 0))) + (Int32.ofNat (own_atN f n 3 (own_cl c3) 0)))]) (pc' := 40) rfl ?_
  refine Goes.callS X 1 [0] [] (D_at0 l Z a0 h0 hw b [.int c0, .int c1, .int c2, .int c3, .int c4, .int c5] f n 4 hf hn (by decide) c4 rfl) (wd hw 80 rfl) (wd hw 81 rfl) (wd hw 4 rfl) (wd hw 82 rfl) pd_y_11 rfl (st := [.int ((((Int32.ofNat (own_atN f n 0 (own_cl c0) 0)) + (Int32.ofNat (own_atN f n 1 (own_cl c1) 0))) + (Int32.ofNat (own_atN f n 2 (own_cl c2) 0))) + (Int32.ofNat (own_atN f n 3 (own_cl c3) 0)))]) rfl rfl (G := []) rfl rfl ?_
  rintro _ _ ⟨rfl, rfl⟩
  refine Goes.runS X [(.iadd, 1), (.aload_n 0, 1), (.iload_n 1, 1), (.iload_n 2, 1), (.iconst 5, 1), (.iload_n 3, 1)] (S' := [.int (0 : Int32), .int (5 : Int32), .int (Int32.ofNat n), .int (Int32.ofNat f), .ref b, .int (((((Int32.ofNat (own_atN f n 0 (own_cl c0) 0)) + (Int32.ofNat (own_atN f n 1 (own_cl c1) 0))) + (Int32.ofNat (own_atN f n 2 (own_cl c2) 0))) + (Int32.ofNat (own_atN f n 3 (own_cl c3) 0))) + (Int32.ofNat (own_atN f n 4 (own_cl c4) 0)))]) (pc' := 49) rfl ?_
  refine Goes.callS X 1 [0] [] (D_at0 l Z a0 h0 hw b [.int c0, .int c1, .int c2, .int c3, .int c4, .int c5] f n 5 hf hn (by decide) c5 rfl) (wd hw 80 rfl) (wd hw 81 rfl) (wd hw 4 rfl) (wd hw 82 rfl) pd_y_11 rfl (st := [.int (((((Int32.ofNat (own_atN f n 0 (own_cl c0) 0)) + (Int32.ofNat (own_atN f n 1 (own_cl c1) 0))) + (Int32.ofNat (own_atN f n 2 (own_cl c2) 0))) + (Int32.ofNat (own_atN f n 3 (own_cl c3) 0))) + (Int32.ofNat (own_atN f n 4 (own_cl c4) 0)))]) rfl rfl (G := []) rfl rfl ?_
  rintro _ _ ⟨rfl, rfl⟩
  refine Goes.runS X [(.iadd, 1)] (S' := [.int ((((((Int32.ofNat (own_atN f n 0 (own_cl c0) 0)) + (Int32.ofNat (own_atN f n 1 (own_cl c1) 0))) + (Int32.ofNat (own_atN f n 2 (own_cl c2) 0))) + (Int32.ofNat (own_atN f n 3 (own_cl c3) 0))) + (Int32.ofNat (own_atN f n 4 (own_cl c4) 0))) + (Int32.ofNat (own_atN f n 5 (own_cl c5) 0)))]) (pc' := 53) rfl ?_
  refine Goes.retI X (by simp) rfl ?_
  exact ⟨by simp only [← Int32.ofNat_add]; rfl, rfl⟩
set_option maxRecDepth 65536 in
set_option maxHeartbeats 40000000 in
theorem D_pos0 (l : Launch) (Z : State) (a0 : Array Value) (h0 : Heap) (hw : ∀ d ∈ tables_1, d.before a0 Z = true) (b : Addr) (c0 c1 c2 c3 c4 c5 : Int32) (f n : Nat) (hf : f ≤ 1) (hn : n ≤ 6) : Does l Z a0 h0 y_20 method_8_code 4 (some .int) ({ frames := 3, cells := 0, slots := 0, locals := 43 } : Room) #[.ref b, .int (Int32.ofNat f), .int (Int32.ofNat n), .int (0 : Int32)] [(b, oC6 c0 c1 c2 c3 c4 c5)] (fun v F => v = some (.int (Int32.ofNat (own_posN f n 0 (own_cl c1) (own_cl c2) (own_cl c3) (own_cl c4) (own_cl c5)))) ∧ F = [(b, oC6 c0 c1 c2 c3 c4 c5)]) := by
  refine Does.mk #[.val (.ref b), .val (.int (Int32.ofNat f)), .val (.int (Int32.ofNat n)), .val (.int (0 : Int32))] (plainFor_of_name (by decide +kernel)) (fun m => by first | (simp [entryFrame, mkF, argsToLocals, Value.category]; done) | rfl) ?_
  intro p e s m args below meth c h X
  show Goes _ _ _ _ _ _ _ _ _ _ _ _ _ _ _ _ _ _ [(b, oC6 c0 c1 c2 c3 c4 c5)] 0 0 (mkF m 0 #[.val (.ref b), .val (.int (Int32.ofNat f)), .val (.int (Int32.ofNat n)), .val (.int (0 : Int32))] [])
  refine Goes.runS X [(.aload_n 0, 1), (.iload_n 1, 1), (.iload_n 2, 1), (.iconst 1, 1), (.iload_n 3, 1)] (S' := [.int (0 : Int32), .int (1 : Int32), .int (Int32.ofNat n), .int (Int32.ofNat f), .ref b]) (pc' := 5) rfl ?_
  refine Goes.callS X 0 [0] [] (D_at0 l Z a0 h0 hw b [.int c0, .int c1, .int c2, .int c3, .int c4, .int c5] f n 1 hf hn (by decide) c1 rfl) (wd hw 80 rfl) (wd hw 81 rfl) (wd hw 4 rfl) (wd hw 82 rfl) pd_y_11 rfl (st := []) rfl rfl (G := []) rfl rfl ?_
  rintro _ _ ⟨rfl, rfl⟩
  refine Goes.runS X [(.iconst 2, 1), (.aload_n 0, 1), (.iload_n 1, 1), (.iload_n 2, 1), (.iconst 2, 1), (.iload_n 3, 1)] (S' := [.int (0 : Int32), .int (2 : Int32), .int (Int32.ofNat n), .int (Int32.ofNat f), .ref b, .int (2 : Int32), .int (Int32.ofNat (own_atN f n 1 (own_cl c1) 0))]) (pc' := 14) rfl ?_
  refine Goes.callS X 2 [0] [] (D_at0 l Z a0 h0 hw b [.int c0, .int c1, .int c2, .int c3, .int c4, .int c5] f n 2 hf hn (by decide) c2 rfl) (wd hw 80 rfl) (wd hw 81 rfl) (wd hw 4 rfl) (wd hw 82 rfl) pd_y_11 rfl (st := [.int (2 : Int32), .int (Int32.ofNat (own_atN f n 1 (own_cl c1) 0))]) rfl rfl (G := []) rfl rfl ?_
  rintro _ _ ⟨rfl, rfl⟩
  refine Goes.runS X [(.imul, 1), (.iadd, 1), (.iconst 3, 1), (.aload_n 0, 1), (.iload_n 1, 1), (.iload_n 2, 1), (.iconst 3, 1), (.iload_n 3, 1)] (S' := [.int (0 : Int32), .int (3 : Int32), .int (Int32.ofNat n), .int (Int32.ofNat f), .ref b, .int (3 : Int32), .int ((Int32.ofNat (own_atN f n 1 (own_cl c1) 0)) + ((2 : Int32) * (Int32.ofNat (own_atN f n 2 (own_cl c2) 0))))]) (pc' := 25) rfl ?_
  refine Goes.callS X 2 [0] [] (D_at0 l Z a0 h0 hw b [.int c0, .int c1, .int c2, .int c3, .int c4, .int c5] f n 3 hf hn (by decide) c3 rfl) (wd hw 80 rfl) (wd hw 81 rfl) (wd hw 4 rfl) (wd hw 82 rfl) pd_y_11 rfl (st := [.int (3 : Int32), .int ((Int32.ofNat (own_atN f n 1 (own_cl c1) 0)) + ((2 : Int32) * (Int32.ofNat (own_atN f n 2 (own_cl c2) 0))))]) rfl rfl (G := []) rfl rfl ?_
  rintro _ _ ⟨rfl, rfl⟩
  refine Goes.runS X [(.imul, 1), (.iadd, 1), (.iconst 4, 1), (.aload_n 0, 1), (.iload_n 1, 1), (.iload_n 2, 1), (.iconst 4, 1), (.iload_n 3, 1)] (S' := [.int (0 : Int32), .int (4 : Int32), .int (Int32.ofNat n), .int (Int32.ofNat f), .ref b, .int (4 : Int32), .int (((Int32.ofNat (own_atN f n 1 (own_cl c1) 0)) + ((2 : Int32) * (Int32.ofNat (own_atN f n 2 (own_cl c2) 0)))) + ((3 : Int32) * (Int32.ofNat (own_atN f n 3 (own_cl c3) 0))))]) (pc' := 36) rfl ?_
  refine Goes.callS X 2 [0] [] (D_at0 l Z a0 h0 hw b [.int c0, .int c1, .int c2, .int c3, .int c4, .int c5] f n 4 hf hn (by decide) c4 rfl) (wd hw 80 rfl) (wd hw 81 rfl) (wd hw 4 rfl) (wd hw 82 rfl) pd_y_11 rfl (st := [.int (4 : Int32), .int (((Int32.ofNat (own_atN f n 1 (own_cl c1) 0)) + ((2 : Int32) * (Int32.ofNat (own_atN f n 2 (own_cl c2) 0)))) + ((3 : Int32) * (Int32.ofNat (own_atN f n 3 (own_cl c3) 0))))]) rfl rfl (G := []) rfl rfl ?_
  rintro _ _ ⟨rfl, rfl⟩
  refine Goes.runS X [(.imul, 1), (.iadd, 1), (.iconst 5, 1), (.aload_n 0, 1), (.iload_n 1, 1), (.iload_n 2, 1), (.iconst 5, 1), (.iload_n 3, 1)] (S' := [.int (0 : Int32), .int (5 : Int32), .int (Int32.ofNat n), .int (Int32.ofNat f), .ref b, .int (5 : Int32), .int ((((Int32.ofNat (own_atN f n 1 (own_cl c1) 0)) + ((2 : Int32) * (Int32.ofNat (own_atN f n 2 (own_cl c2) 0)))) + ((3 : Int32) * (Int32.ofNat (own_atN f n 3 (own_cl c3) 0)))) + ((4 : Int32) * (Int32.ofNat (own_atN f n 4 (own_cl c4) 0))))]) (pc' := 47) rfl ?_
  refine Goes.callS X 2 [0] [] (D_at0 l Z a0 h0 hw b [.int c0, .int c1, .int c2, .int c3, .int c4, .int c5] f n 5 hf hn (by decide) c5 rfl) (wd hw 80 rfl) (wd hw 81 rfl) (wd hw 4 rfl) (wd hw 82 rfl) pd_y_11 rfl (st := [.int (5 : Int32), .int ((((Int32.ofNat (own_atN f n 1 (own_cl c1) 0)) + ((2 : Int32) * (Int32.ofNat (own_atN f n 2 (own_cl c2) 0)))) + ((3 : Int32) * (Int32.ofNat (own_atN f n 3 (own_cl c3) 0)))) + ((4 : Int32) * (Int32.ofNat (own_atN f n 4 (own_cl c4) 0))))]) rfl rfl (G := []) rfl rfl ?_
  rintro _ _ ⟨rfl, rfl⟩
  refine Goes.runS X [(.imul, 1), (.iadd, 1)] (S' := [.int (((((Int32.ofNat (own_atN f n 1 (own_cl c1) 0)) + ((2 : Int32) * (Int32.ofNat (own_atN f n 2 (own_cl c2) 0)))) + ((3 : Int32) * (Int32.ofNat (own_atN f n 3 (own_cl c3) 0)))) + ((4 : Int32) * (Int32.ofNat (own_atN f n 4 (own_cl c4) 0)))) + ((5 : Int32) * (Int32.ofNat (own_atN f n 5 (own_cl c5) 0))))]) (pc' := 52) rfl ?_
  refine Goes.retI X (by simp) rfl ?_
  exact ⟨by rw [show (2 : Int32) = Int32.ofNat 2 from rfl, show (3 : Int32) = Int32.ofNat 3 from rfl, show (4 : Int32) = Int32.ofNat 4 from rfl, show (5 : Int32) = Int32.ofNat 5 from rfl]; simp only [← Int32.ofNat_mul, ← Int32.ofNat_add]; rfl, rfl⟩
set_option maxRecDepth 65536 in
set_option maxHeartbeats 40000000 in
theorem D_cnt1 (l : Launch) (Z : State) (a0 : Array Value) (h0 : Heap) (hw : ∀ d ∈ tables_1, d.before a0 Z = true) (b : Addr) (c0 c1 c2 c3 c4 c5 : Int32) (f n : Nat) (hf : f ≤ 1) (hn : n ≤ 6) : Does l Z a0 h0 y_10 method_7_code 4 (some .int) ({ frames := 3, cells := 0, slots := 0, locals := 42 } : Room) #[.ref b, .int (Int32.ofNat f), .int (Int32.ofNat n), .int (1 : Int32)] [(b, oC6 c0 c1 c2 c3 c4 c5)] (fun v F => v = some (.int (Int32.ofNat (own_cntN f n 1 (own_cl c0) (own_cl c1) (own_cl c2) (own_cl c3) (own_cl c4) (own_cl c5)))) ∧ F = [(b, oC6 c0 c1 c2 c3 c4 c5)]) := by
  refine Does.mk #[.val (.ref b), .val (.int (Int32.ofNat f)), .val (.int (Int32.ofNat n)), .val (.int (1 : Int32))] (plainFor_of_name (by decide +kernel)) (fun m => by first | (simp [entryFrame, mkF, argsToLocals, Value.category]; done) | rfl) ?_
  intro p e s m args below meth c h X
  show Goes _ _ _ _ _ _ _ _ _ _ _ _ _ _ _ _ _ _ [(b, oC6 c0 c1 c2 c3 c4 c5)] 0 0 (mkF m 0 #[.val (.ref b), .val (.int (Int32.ofNat f)), .val (.int (Int32.ofNat n)), .val (.int (1 : Int32))] [])
  refine Goes.runS X [(.aload_n 0, 1), (.iload_n 1, 1), (.iload_n 2, 1), (.iconst 0, 1), (.iload_n 3, 1)] (S' := [.int (1 : Int32), .int (0 : Int32), .int (Int32.ofNat n), .int (Int32.ofNat f), .ref b]) (pc' := 5) rfl ?_
  refine Goes.callS X 0 [0] [] (D_at1 l Z a0 h0 hw b [.int c0, .int c1, .int c2, .int c3, .int c4, .int c5] f n 0 hf hn (by decide) c0 rfl) (wd hw 80 rfl) (wd hw 81 rfl) (wd hw 4 rfl) (wd hw 82 rfl) pd_y_11 rfl (st := []) rfl rfl (G := []) rfl rfl ?_
  rintro _ _ ⟨rfl, rfl⟩
  refine Goes.runS X [(.aload_n 0, 1), (.iload_n 1, 1), (.iload_n 2, 1), (.iconst 1, 1), (.iload_n 3, 1)] (S' := [.int (1 : Int32), .int (1 : Int32), .int (Int32.ofNat n), .int (Int32.ofNat f), .ref b, .int (Int32.ofNat (own_atN f n 0 (own_cl c0) 1))]) (pc' := 13) rfl ?_
  refine Goes.callS X 1 [0] [] (D_at1 l Z a0 h0 hw b [.int c0, .int c1, .int c2, .int c3, .int c4, .int c5] f n 1 hf hn (by decide) c1 rfl) (wd hw 80 rfl) (wd hw 81 rfl) (wd hw 4 rfl) (wd hw 82 rfl) pd_y_11 rfl (st := [.int (Int32.ofNat (own_atN f n 0 (own_cl c0) 1))]) rfl rfl (G := []) rfl rfl ?_
  rintro _ _ ⟨rfl, rfl⟩
  refine Goes.runS X [(.iadd, 1), (.aload_n 0, 1), (.iload_n 1, 1), (.iload_n 2, 1), (.iconst 2, 1), (.iload_n 3, 1)] (S' := [.int (1 : Int32), .int (2 : Int32), .int (Int32.ofNat n), .int (Int32.ofNat f), .ref b, .int ((Int32.ofNat (own_atN f n 0 (own_cl c0) 1)) + (Int32.ofNat (own_atN f n 1 (own_cl c1) 1)))]) (pc' := 22) rfl ?_
  refine Goes.callS X 1 [0] [] (D_at1 l Z a0 h0 hw b [.int c0, .int c1, .int c2, .int c3, .int c4, .int c5] f n 2 hf hn (by decide) c2 rfl) (wd hw 80 rfl) (wd hw 81 rfl) (wd hw 4 rfl) (wd hw 82 rfl) pd_y_11 rfl (st := [.int ((Int32.ofNat (own_atN f n 0 (own_cl c0) 1)) + (Int32.ofNat (own_atN f n 1 (own_cl c1) 1)))]) rfl rfl (G := []) rfl rfl ?_
  rintro _ _ ⟨rfl, rfl⟩
  refine Goes.runS X [(.iadd, 1), (.aload_n 0, 1), (.iload_n 1, 1), (.iload_n 2, 1), (.iconst 3, 1), (.iload_n 3, 1)] (S' := [.int (1 : Int32), .int (3 : Int32), .int (Int32.ofNat n), .int (Int32.ofNat f), .ref b, .int (((Int32.ofNat (own_atN f n 0 (own_cl c0) 1)) + (Int32.ofNat (own_atN f n 1 (own_cl c1) 1))) + (Int32.ofNat (own_atN f n 2 (own_cl c2) 1)))]) (pc' := 31) rfl ?_
  refine Goes.callS X 1 [0] [] (D_at1 l Z a0 h0 hw b [.int c0, .int c1, .int c2, .int c3, .int c4, .int c5] f n 3 hf hn (by decide) c3 rfl) (wd hw 80 rfl) (wd hw 81 rfl) (wd hw 4 rfl) (wd hw 82 rfl) pd_y_11 rfl (st := [.int (((Int32.ofNat (own_atN f n 0 (own_cl c0) 1)) + (Int32.ofNat (own_atN f n 1 (own_cl c1) 1))) + (Int32.ofNat (own_atN f n 2 (own_cl c2) 1)))]) rfl rfl (G := []) rfl rfl ?_
  rintro _ _ ⟨rfl, rfl⟩
  refine Goes.runS X [(.iadd, 1), (.aload_n 0, 1), (.iload_n 1, 1), (.iload_n 2, 1), (.iconst 4, 1), (.iload_n 3, 1)] (S' := [.int (1 : Int32), .int (4 : Int32), .int (Int32.ofNat n), .int (Int32.ofNat f), .ref b, .int ((((Int32.ofNat (own_atN f n 0 (own_cl c0) 1)) + (Int32.ofNat (own_atN f n 1 (own_cl c1) 1))) + (Int32.ofNat (own_atN f n 2 (own_cl c2) 1))) + (Int32.ofNat (own_atN f n 3 (own_cl c3) 1)))]) (pc' := 40) rfl ?_
  refine Goes.callS X 1 [0] [] (D_at1 l Z a0 h0 hw b [.int c0, .int c1, .int c2, .int c3, .int c4, .int c5] f n 4 hf hn (by decide) c4 rfl) (wd hw 80 rfl) (wd hw 81 rfl) (wd hw 4 rfl) (wd hw 82 rfl) pd_y_11 rfl (st := [.int ((((Int32.ofNat (own_atN f n 0 (own_cl c0) 1)) + (Int32.ofNat (own_atN f n 1 (own_cl c1) 1))) + (Int32.ofNat (own_atN f n 2 (own_cl c2) 1))) + (Int32.ofNat (own_atN f n 3 (own_cl c3) 1)))]) rfl rfl (G := []) rfl rfl ?_
  rintro _ _ ⟨rfl, rfl⟩
  refine Goes.runS X [(.iadd, 1), (.aload_n 0, 1), (.iload_n 1, 1), (.iload_n 2, 1), (.iconst 5, 1), (.iload_n 3, 1)] (S' := [.int (1 : Int32), .int (5 : Int32), .int (Int32.ofNat n), .int (Int32.ofNat f), .ref b, .int (((((Int32.ofNat (own_atN f n 0 (own_cl c0) 1)) + (Int32.ofNat (own_atN f n 1 (own_cl c1) 1))) + (Int32.ofNat (own_atN f n 2 (own_cl c2) 1))) + (Int32.ofNat (own_atN f n 3 (own_cl c3) 1))) + (Int32.ofNat (own_atN f n 4 (own_cl c4) 1)))]) (pc' := 49) rfl ?_
  refine Goes.callS X 1 [0] [] (D_at1 l Z a0 h0 hw b [.int c0, .int c1, .int c2, .int c3, .int c4, .int c5] f n 5 hf hn (by decide) c5 rfl) (wd hw 80 rfl) (wd hw 81 rfl) (wd hw 4 rfl) (wd hw 82 rfl) pd_y_11 rfl (st := [.int (((((Int32.ofNat (own_atN f n 0 (own_cl c0) 1)) + (Int32.ofNat (own_atN f n 1 (own_cl c1) 1))) + (Int32.ofNat (own_atN f n 2 (own_cl c2) 1))) + (Int32.ofNat (own_atN f n 3 (own_cl c3) 1))) + (Int32.ofNat (own_atN f n 4 (own_cl c4) 1)))]) rfl rfl (G := []) rfl rfl ?_
  rintro _ _ ⟨rfl, rfl⟩
  refine Goes.runS X [(.iadd, 1)] (S' := [.int ((((((Int32.ofNat (own_atN f n 0 (own_cl c0) 1)) + (Int32.ofNat (own_atN f n 1 (own_cl c1) 1))) + (Int32.ofNat (own_atN f n 2 (own_cl c2) 1))) + (Int32.ofNat (own_atN f n 3 (own_cl c3) 1))) + (Int32.ofNat (own_atN f n 4 (own_cl c4) 1))) + (Int32.ofNat (own_atN f n 5 (own_cl c5) 1)))]) (pc' := 53) rfl ?_
  refine Goes.retI X (by simp) rfl ?_
  exact ⟨by simp only [← Int32.ofNat_add]; rfl, rfl⟩
set_option maxRecDepth 65536 in
set_option maxHeartbeats 40000000 in
theorem D_pos1 (l : Launch) (Z : State) (a0 : Array Value) (h0 : Heap) (hw : ∀ d ∈ tables_1, d.before a0 Z = true) (b : Addr) (c0 c1 c2 c3 c4 c5 : Int32) (f n : Nat) (hf : f ≤ 1) (hn : n ≤ 6) : Does l Z a0 h0 y_20 method_8_code 4 (some .int) ({ frames := 3, cells := 0, slots := 0, locals := 43 } : Room) #[.ref b, .int (Int32.ofNat f), .int (Int32.ofNat n), .int (1 : Int32)] [(b, oC6 c0 c1 c2 c3 c4 c5)] (fun v F => v = some (.int (Int32.ofNat (own_posN f n 1 (own_cl c1) (own_cl c2) (own_cl c3) (own_cl c4) (own_cl c5)))) ∧ F = [(b, oC6 c0 c1 c2 c3 c4 c5)]) := by
  refine Does.mk #[.val (.ref b), .val (.int (Int32.ofNat f)), .val (.int (Int32.ofNat n)), .val (.int (1 : Int32))] (plainFor_of_name (by decide +kernel)) (fun m => by first | (simp [entryFrame, mkF, argsToLocals, Value.category]; done) | rfl) ?_
  intro p e s m args below meth c h X
  show Goes _ _ _ _ _ _ _ _ _ _ _ _ _ _ _ _ _ _ [(b, oC6 c0 c1 c2 c3 c4 c5)] 0 0 (mkF m 0 #[.val (.ref b), .val (.int (Int32.ofNat f)), .val (.int (Int32.ofNat n)), .val (.int (1 : Int32))] [])
  refine Goes.runS X [(.aload_n 0, 1), (.iload_n 1, 1), (.iload_n 2, 1), (.iconst 1, 1), (.iload_n 3, 1)] (S' := [.int (1 : Int32), .int (1 : Int32), .int (Int32.ofNat n), .int (Int32.ofNat f), .ref b]) (pc' := 5) rfl ?_
  refine Goes.callS X 0 [0] [] (D_at1 l Z a0 h0 hw b [.int c0, .int c1, .int c2, .int c3, .int c4, .int c5] f n 1 hf hn (by decide) c1 rfl) (wd hw 80 rfl) (wd hw 81 rfl) (wd hw 4 rfl) (wd hw 82 rfl) pd_y_11 rfl (st := []) rfl rfl (G := []) rfl rfl ?_
  rintro _ _ ⟨rfl, rfl⟩
  refine Goes.runS X [(.iconst 2, 1), (.aload_n 0, 1), (.iload_n 1, 1), (.iload_n 2, 1), (.iconst 2, 1), (.iload_n 3, 1)] (S' := [.int (1 : Int32), .int (2 : Int32), .int (Int32.ofNat n), .int (Int32.ofNat f), .ref b, .int (2 : Int32), .int (Int32.ofNat (own_atN f n 1 (own_cl c1) 1))]) (pc' := 14) rfl ?_
  refine Goes.callS X 2 [0] [] (D_at1 l Z a0 h0 hw b [.int c0, .int c1, .int c2, .int c3, .int c4, .int c5] f n 2 hf hn (by decide) c2 rfl) (wd hw 80 rfl) (wd hw 81 rfl) (wd hw 4 rfl) (wd hw 82 rfl) pd_y_11 rfl (st := [.int (2 : Int32), .int (Int32.ofNat (own_atN f n 1 (own_cl c1) 1))]) rfl rfl (G := []) rfl rfl ?_
  rintro _ _ ⟨rfl, rfl⟩
  refine Goes.runS X [(.imul, 1), (.iadd, 1), (.iconst 3, 1), (.aload_n 0, 1), (.iload_n 1, 1), (.iload_n 2, 1), (.iconst 3, 1), (.iload_n 3, 1)] (S' := [.int (1 : Int32), .int (3 : Int32), .int (Int32.ofNat n), .int (Int32.ofNat f), .ref b, .int (3 : Int32), .int ((Int32.ofNat (own_atN f n 1 (own_cl c1) 1)) + ((2 : Int32) * (Int32.ofNat (own_atN f n 2 (own_cl c2) 1))))]) (pc' := 25) rfl ?_
  refine Goes.callS X 2 [0] [] (D_at1 l Z a0 h0 hw b [.int c0, .int c1, .int c2, .int c3, .int c4, .int c5] f n 3 hf hn (by decide) c3 rfl) (wd hw 80 rfl) (wd hw 81 rfl) (wd hw 4 rfl) (wd hw 82 rfl) pd_y_11 rfl (st := [.int (3 : Int32), .int ((Int32.ofNat (own_atN f n 1 (own_cl c1) 1)) + ((2 : Int32) * (Int32.ofNat (own_atN f n 2 (own_cl c2) 1))))]) rfl rfl (G := []) rfl rfl ?_
  rintro _ _ ⟨rfl, rfl⟩
  refine Goes.runS X [(.imul, 1), (.iadd, 1), (.iconst 4, 1), (.aload_n 0, 1), (.iload_n 1, 1), (.iload_n 2, 1), (.iconst 4, 1), (.iload_n 3, 1)] (S' := [.int (1 : Int32), .int (4 : Int32), .int (Int32.ofNat n), .int (Int32.ofNat f), .ref b, .int (4 : Int32), .int (((Int32.ofNat (own_atN f n 1 (own_cl c1) 1)) + ((2 : Int32) * (Int32.ofNat (own_atN f n 2 (own_cl c2) 1)))) + ((3 : Int32) * (Int32.ofNat (own_atN f n 3 (own_cl c3) 1))))]) (pc' := 36) rfl ?_
  refine Goes.callS X 2 [0] [] (D_at1 l Z a0 h0 hw b [.int c0, .int c1, .int c2, .int c3, .int c4, .int c5] f n 4 hf hn (by decide) c4 rfl) (wd hw 80 rfl) (wd hw 81 rfl) (wd hw 4 rfl) (wd hw 82 rfl) pd_y_11 rfl (st := [.int (4 : Int32), .int (((Int32.ofNat (own_atN f n 1 (own_cl c1) 1)) + ((2 : Int32) * (Int32.ofNat (own_atN f n 2 (own_cl c2) 1)))) + ((3 : Int32) * (Int32.ofNat (own_atN f n 3 (own_cl c3) 1))))]) rfl rfl (G := []) rfl rfl ?_
  rintro _ _ ⟨rfl, rfl⟩
  refine Goes.runS X [(.imul, 1), (.iadd, 1), (.iconst 5, 1), (.aload_n 0, 1), (.iload_n 1, 1), (.iload_n 2, 1), (.iconst 5, 1), (.iload_n 3, 1)] (S' := [.int (1 : Int32), .int (5 : Int32), .int (Int32.ofNat n), .int (Int32.ofNat f), .ref b, .int (5 : Int32), .int ((((Int32.ofNat (own_atN f n 1 (own_cl c1) 1)) + ((2 : Int32) * (Int32.ofNat (own_atN f n 2 (own_cl c2) 1)))) + ((3 : Int32) * (Int32.ofNat (own_atN f n 3 (own_cl c3) 1)))) + ((4 : Int32) * (Int32.ofNat (own_atN f n 4 (own_cl c4) 1))))]) (pc' := 47) rfl ?_
  refine Goes.callS X 2 [0] [] (D_at1 l Z a0 h0 hw b [.int c0, .int c1, .int c2, .int c3, .int c4, .int c5] f n 5 hf hn (by decide) c5 rfl) (wd hw 80 rfl) (wd hw 81 rfl) (wd hw 4 rfl) (wd hw 82 rfl) pd_y_11 rfl (st := [.int (5 : Int32), .int ((((Int32.ofNat (own_atN f n 1 (own_cl c1) 1)) + ((2 : Int32) * (Int32.ofNat (own_atN f n 2 (own_cl c2) 1)))) + ((3 : Int32) * (Int32.ofNat (own_atN f n 3 (own_cl c3) 1)))) + ((4 : Int32) * (Int32.ofNat (own_atN f n 4 (own_cl c4) 1))))]) rfl rfl (G := []) rfl rfl ?_
  rintro _ _ ⟨rfl, rfl⟩
  refine Goes.runS X [(.imul, 1), (.iadd, 1)] (S' := [.int (((((Int32.ofNat (own_atN f n 1 (own_cl c1) 1)) + ((2 : Int32) * (Int32.ofNat (own_atN f n 2 (own_cl c2) 1)))) + ((3 : Int32) * (Int32.ofNat (own_atN f n 3 (own_cl c3) 1)))) + ((4 : Int32) * (Int32.ofNat (own_atN f n 4 (own_cl c4) 1)))) + ((5 : Int32) * (Int32.ofNat (own_atN f n 5 (own_cl c5) 1))))]) (pc' := 52) rfl ?_
  refine Goes.retI X (by simp) rfl ?_
  exact ⟨by rw [show (2 : Int32) = Int32.ofNat 2 from rfl, show (3 : Int32) = Int32.ofNat 3 from rfl, show (4 : Int32) = Int32.ofNat 4 from rfl, show (5 : Int32) = Int32.ofNat 5 from rfl]; simp only [← Int32.ofNat_mul, ← Int32.ofNat_add]; rfl, rfl⟩
set_option maxRecDepth 65536 in
set_option maxHeartbeats 40000000 in
theorem D_cnt2 (l : Launch) (Z : State) (a0 : Array Value) (h0 : Heap) (hw : ∀ d ∈ tables_1, d.before a0 Z = true) (b : Addr) (c0 c1 c2 c3 c4 c5 : Int32) (f n : Nat) (hf : f ≤ 1) (hn : n ≤ 6) : Does l Z a0 h0 y_10 method_7_code 4 (some .int) ({ frames := 3, cells := 0, slots := 0, locals := 42 } : Room) #[.ref b, .int (Int32.ofNat f), .int (Int32.ofNat n), .int (2 : Int32)] [(b, oC6 c0 c1 c2 c3 c4 c5)] (fun v F => v = some (.int (Int32.ofNat (own_cntN f n 2 (own_cl c0) (own_cl c1) (own_cl c2) (own_cl c3) (own_cl c4) (own_cl c5)))) ∧ F = [(b, oC6 c0 c1 c2 c3 c4 c5)]) := by
  refine Does.mk #[.val (.ref b), .val (.int (Int32.ofNat f)), .val (.int (Int32.ofNat n)), .val (.int (2 : Int32))] (plainFor_of_name (by decide +kernel)) (fun m => by first | (simp [entryFrame, mkF, argsToLocals, Value.category]; done) | rfl) ?_
  intro p e s m args below meth c h X
  show Goes _ _ _ _ _ _ _ _ _ _ _ _ _ _ _ _ _ _ [(b, oC6 c0 c1 c2 c3 c4 c5)] 0 0 (mkF m 0 #[.val (.ref b), .val (.int (Int32.ofNat f)), .val (.int (Int32.ofNat n)), .val (.int (2 : Int32))] [])
  refine Goes.runS X [(.aload_n 0, 1), (.iload_n 1, 1), (.iload_n 2, 1), (.iconst 0, 1), (.iload_n 3, 1)] (S' := [.int (2 : Int32), .int (0 : Int32), .int (Int32.ofNat n), .int (Int32.ofNat f), .ref b]) (pc' := 5) rfl ?_
  refine Goes.callS X 0 [0] [] (D_at2 l Z a0 h0 hw b [.int c0, .int c1, .int c2, .int c3, .int c4, .int c5] f n 0 hf hn (by decide) c0 rfl) (wd hw 80 rfl) (wd hw 81 rfl) (wd hw 4 rfl) (wd hw 82 rfl) pd_y_11 rfl (st := []) rfl rfl (G := []) rfl rfl ?_
  rintro _ _ ⟨rfl, rfl⟩
  refine Goes.runS X [(.aload_n 0, 1), (.iload_n 1, 1), (.iload_n 2, 1), (.iconst 1, 1), (.iload_n 3, 1)] (S' := [.int (2 : Int32), .int (1 : Int32), .int (Int32.ofNat n), .int (Int32.ofNat f), .ref b, .int (Int32.ofNat (own_atN f n 0 (own_cl c0) 2))]) (pc' := 13) rfl ?_
  refine Goes.callS X 1 [0] [] (D_at2 l Z a0 h0 hw b [.int c0, .int c1, .int c2, .int c3, .int c4, .int c5] f n 1 hf hn (by decide) c1 rfl) (wd hw 80 rfl) (wd hw 81 rfl) (wd hw 4 rfl) (wd hw 82 rfl) pd_y_11 rfl (st := [.int (Int32.ofNat (own_atN f n 0 (own_cl c0) 2))]) rfl rfl (G := []) rfl rfl ?_
  rintro _ _ ⟨rfl, rfl⟩
  refine Goes.runS X [(.iadd, 1), (.aload_n 0, 1), (.iload_n 1, 1), (.iload_n 2, 1), (.iconst 2, 1), (.iload_n 3, 1)] (S' := [.int (2 : Int32), .int (2 : Int32), .int (Int32.ofNat n), .int (Int32.ofNat f), .ref b, .int ((Int32.ofNat (own_atN f n 0 (own_cl c0) 2)) + (Int32.ofNat (own_atN f n 1 (own_cl c1) 2)))]) (pc' := 22) rfl ?_
  refine Goes.callS X 1 [0] [] (D_at2 l Z a0 h0 hw b [.int c0, .int c1, .int c2, .int c3, .int c4, .int c5] f n 2 hf hn (by decide) c2 rfl) (wd hw 80 rfl) (wd hw 81 rfl) (wd hw 4 rfl) (wd hw 82 rfl) pd_y_11 rfl (st := [.int ((Int32.ofNat (own_atN f n 0 (own_cl c0) 2)) + (Int32.ofNat (own_atN f n 1 (own_cl c1) 2)))]) rfl rfl (G := []) rfl rfl ?_
  rintro _ _ ⟨rfl, rfl⟩
  refine Goes.runS X [(.iadd, 1), (.aload_n 0, 1), (.iload_n 1, 1), (.iload_n 2, 1), (.iconst 3, 1), (.iload_n 3, 1)] (S' := [.int (2 : Int32), .int (3 : Int32), .int (Int32.ofNat n), .int (Int32.ofNat f), .ref b, .int (((Int32.ofNat (own_atN f n 0 (own_cl c0) 2)) + (Int32.ofNat (own_atN f n 1 (own_cl c1) 2))) + (Int32.ofNat (own_atN f n 2 (own_cl c2) 2)))]) (pc' := 31) rfl ?_
  refine Goes.callS X 1 [0] [] (D_at2 l Z a0 h0 hw b [.int c0, .int c1, .int c2, .int c3, .int c4, .int c5] f n 3 hf hn (by decide) c3 rfl) (wd hw 80 rfl) (wd hw 81 rfl) (wd hw 4 rfl) (wd hw 82 rfl) pd_y_11 rfl (st := [.int (((Int32.ofNat (own_atN f n 0 (own_cl c0) 2)) + (Int32.ofNat (own_atN f n 1 (own_cl c1) 2))) + (Int32.ofNat (own_atN f n 2 (own_cl c2) 2)))]) rfl rfl (G := []) rfl rfl ?_
  rintro _ _ ⟨rfl, rfl⟩
  refine Goes.runS X [(.iadd, 1), (.aload_n 0, 1), (.iload_n 1, 1), (.iload_n 2, 1), (.iconst 4, 1), (.iload_n 3, 1)] (S' := [.int (2 : Int32), .int (4 : Int32), .int (Int32.ofNat n), .int (Int32.ofNat f), .ref b, .int ((((Int32.ofNat (own_atN f n 0 (own_cl c0) 2)) + (Int32.ofNat (own_atN f n 1 (own_cl c1) 2))) + (Int32.ofNat (own_atN f n 2 (own_cl c2) 2))) + (Int32.ofNat (own_atN f n 3 (own_cl c3) 2)))]) (pc' := 40) rfl ?_
  refine Goes.callS X 1 [0] [] (D_at2 l Z a0 h0 hw b [.int c0, .int c1, .int c2, .int c3, .int c4, .int c5] f n 4 hf hn (by decide) c4 rfl) (wd hw 80 rfl) (wd hw 81 rfl) (wd hw 4 rfl) (wd hw 82 rfl) pd_y_11 rfl (st := [.int ((((Int32.ofNat (own_atN f n 0 (own_cl c0) 2)) + (Int32.ofNat (own_atN f n 1 (own_cl c1) 2))) + (Int32.ofNat (own_atN f n 2 (own_cl c2) 2))) + (Int32.ofNat (own_atN f n 3 (own_cl c3) 2)))]) rfl rfl (G := []) rfl rfl ?_
  rintro _ _ ⟨rfl, rfl⟩
  refine Goes.runS X [(.iadd, 1), (.aload_n 0, 1), (.iload_n 1, 1), (.iload_n 2, 1), (.iconst 5, 1), (.iload_n 3, 1)] (S' := [.int (2 : Int32), .int (5 : Int32), .int (Int32.ofNat n), .int (Int32.ofNat f), .ref b, .int (((((Int32.ofNat (own_atN f n 0 (own_cl c0) 2)) + (Int32.ofNat (own_atN f n 1 (own_cl c1) 2))) + (Int32.ofNat (own_atN f n 2 (own_cl c2) 2))) + (Int32.ofNat (own_atN f n 3 (own_cl c3) 2))) + (Int32.ofNat (own_atN f n 4 (own_cl c4) 2)))]) (pc' := 49) rfl ?_
  refine Goes.callS X 1 [0] [] (D_at2 l Z a0 h0 hw b [.int c0, .int c1, .int c2, .int c3, .int c4, .int c5] f n 5 hf hn (by decide) c5 rfl) (wd hw 80 rfl) (wd hw 81 rfl) (wd hw 4 rfl) (wd hw 82 rfl) pd_y_11 rfl (st := [.int (((((Int32.ofNat (own_atN f n 0 (own_cl c0) 2)) + (Int32.ofNat (own_atN f n 1 (own_cl c1) 2))) + (Int32.ofNat (own_atN f n 2 (own_cl c2) 2))) + (Int32.ofNat (own_atN f n 3 (own_cl c3) 2))) + (Int32.ofNat (own_atN f n 4 (own_cl c4) 2)))]) rfl rfl (G := []) rfl rfl ?_
  rintro _ _ ⟨rfl, rfl⟩
  refine Goes.runS X [(.iadd, 1)] (S' := [.int ((((((Int32.ofNat (own_atN f n 0 (own_cl c0) 2)) + (Int32.ofNat (own_atN f n 1 (own_cl c1) 2))) + (Int32.ofNat (own_atN f n 2 (own_cl c2) 2))) + (Int32.ofNat (own_atN f n 3 (own_cl c3) 2))) + (Int32.ofNat (own_atN f n 4 (own_cl c4) 2))) + (Int32.ofNat (own_atN f n 5 (own_cl c5) 2)))]) (pc' := 53) rfl ?_
  refine Goes.retI X (by simp) rfl ?_
  exact ⟨by simp only [← Int32.ofNat_add]; rfl, rfl⟩
set_option maxRecDepth 65536 in
set_option maxHeartbeats 40000000 in
theorem D_pos2 (l : Launch) (Z : State) (a0 : Array Value) (h0 : Heap) (hw : ∀ d ∈ tables_1, d.before a0 Z = true) (b : Addr) (c0 c1 c2 c3 c4 c5 : Int32) (f n : Nat) (hf : f ≤ 1) (hn : n ≤ 6) : Does l Z a0 h0 y_20 method_8_code 4 (some .int) ({ frames := 3, cells := 0, slots := 0, locals := 43 } : Room) #[.ref b, .int (Int32.ofNat f), .int (Int32.ofNat n), .int (2 : Int32)] [(b, oC6 c0 c1 c2 c3 c4 c5)] (fun v F => v = some (.int (Int32.ofNat (own_posN f n 2 (own_cl c1) (own_cl c2) (own_cl c3) (own_cl c4) (own_cl c5)))) ∧ F = [(b, oC6 c0 c1 c2 c3 c4 c5)]) := by
  refine Does.mk #[.val (.ref b), .val (.int (Int32.ofNat f)), .val (.int (Int32.ofNat n)), .val (.int (2 : Int32))] (plainFor_of_name (by decide +kernel)) (fun m => by first | (simp [entryFrame, mkF, argsToLocals, Value.category]; done) | rfl) ?_
  intro p e s m args below meth c h X
  show Goes _ _ _ _ _ _ _ _ _ _ _ _ _ _ _ _ _ _ [(b, oC6 c0 c1 c2 c3 c4 c5)] 0 0 (mkF m 0 #[.val (.ref b), .val (.int (Int32.ofNat f)), .val (.int (Int32.ofNat n)), .val (.int (2 : Int32))] [])
  refine Goes.runS X [(.aload_n 0, 1), (.iload_n 1, 1), (.iload_n 2, 1), (.iconst 1, 1), (.iload_n 3, 1)] (S' := [.int (2 : Int32), .int (1 : Int32), .int (Int32.ofNat n), .int (Int32.ofNat f), .ref b]) (pc' := 5) rfl ?_
  refine Goes.callS X 0 [0] [] (D_at2 l Z a0 h0 hw b [.int c0, .int c1, .int c2, .int c3, .int c4, .int c5] f n 1 hf hn (by decide) c1 rfl) (wd hw 80 rfl) (wd hw 81 rfl) (wd hw 4 rfl) (wd hw 82 rfl) pd_y_11 rfl (st := []) rfl rfl (G := []) rfl rfl ?_
  rintro _ _ ⟨rfl, rfl⟩
  refine Goes.runS X [(.iconst 2, 1), (.aload_n 0, 1), (.iload_n 1, 1), (.iload_n 2, 1), (.iconst 2, 1), (.iload_n 3, 1)] (S' := [.int (2 : Int32), .int (2 : Int32), .int (Int32.ofNat n), .int (Int32.ofNat f), .ref b, .int (2 : Int32), .int (Int32.ofNat (own_atN f n 1 (own_cl c1) 2))]) (pc' := 14) rfl ?_
  refine Goes.callS X 2 [0] [] (D_at2 l Z a0 h0 hw b [.int c0, .int c1, .int c2, .int c3, .int c4, .int c5] f n 2 hf hn (by decide) c2 rfl) (wd hw 80 rfl) (wd hw 81 rfl) (wd hw 4 rfl) (wd hw 82 rfl) pd_y_11 rfl (st := [.int (2 : Int32), .int (Int32.ofNat (own_atN f n 1 (own_cl c1) 2))]) rfl rfl (G := []) rfl rfl ?_
  rintro _ _ ⟨rfl, rfl⟩
  refine Goes.runS X [(.imul, 1), (.iadd, 1), (.iconst 3, 1), (.aload_n 0, 1), (.iload_n 1, 1), (.iload_n 2, 1), (.iconst 3, 1), (.iload_n 3, 1)] (S' := [.int (2 : Int32), .int (3 : Int32), .int (Int32.ofNat n), .int (Int32.ofNat f), .ref b, .int (3 : Int32), .int ((Int32.ofNat (own_atN f n 1 (own_cl c1) 2)) + ((2 : Int32) * (Int32.ofNat (own_atN f n 2 (own_cl c2) 2))))]) (pc' := 25) rfl ?_
  refine Goes.callS X 2 [0] [] (D_at2 l Z a0 h0 hw b [.int c0, .int c1, .int c2, .int c3, .int c4, .int c5] f n 3 hf hn (by decide) c3 rfl) (wd hw 80 rfl) (wd hw 81 rfl) (wd hw 4 rfl) (wd hw 82 rfl) pd_y_11 rfl (st := [.int (3 : Int32), .int ((Int32.ofNat (own_atN f n 1 (own_cl c1) 2)) + ((2 : Int32) * (Int32.ofNat (own_atN f n 2 (own_cl c2) 2))))]) rfl rfl (G := []) rfl rfl ?_
  rintro _ _ ⟨rfl, rfl⟩
  refine Goes.runS X [(.imul, 1), (.iadd, 1), (.iconst 4, 1), (.aload_n 0, 1), (.iload_n 1, 1), (.iload_n 2, 1), (.iconst 4, 1), (.iload_n 3, 1)] (S' := [.int (2 : Int32), .int (4 : Int32), .int (Int32.ofNat n), .int (Int32.ofNat f), .ref b, .int (4 : Int32), .int (((Int32.ofNat (own_atN f n 1 (own_cl c1) 2)) + ((2 : Int32) * (Int32.ofNat (own_atN f n 2 (own_cl c2) 2)))) + ((3 : Int32) * (Int32.ofNat (own_atN f n 3 (own_cl c3) 2))))]) (pc' := 36) rfl ?_
  refine Goes.callS X 2 [0] [] (D_at2 l Z a0 h0 hw b [.int c0, .int c1, .int c2, .int c3, .int c4, .int c5] f n 4 hf hn (by decide) c4 rfl) (wd hw 80 rfl) (wd hw 81 rfl) (wd hw 4 rfl) (wd hw 82 rfl) pd_y_11 rfl (st := [.int (4 : Int32), .int (((Int32.ofNat (own_atN f n 1 (own_cl c1) 2)) + ((2 : Int32) * (Int32.ofNat (own_atN f n 2 (own_cl c2) 2)))) + ((3 : Int32) * (Int32.ofNat (own_atN f n 3 (own_cl c3) 2))))]) rfl rfl (G := []) rfl rfl ?_
  rintro _ _ ⟨rfl, rfl⟩
  refine Goes.runS X [(.imul, 1), (.iadd, 1), (.iconst 5, 1), (.aload_n 0, 1), (.iload_n 1, 1), (.iload_n 2, 1), (.iconst 5, 1), (.iload_n 3, 1)] (S' := [.int (2 : Int32), .int (5 : Int32), .int (Int32.ofNat n), .int (Int32.ofNat f), .ref b, .int (5 : Int32), .int ((((Int32.ofNat (own_atN f n 1 (own_cl c1) 2)) + ((2 : Int32) * (Int32.ofNat (own_atN f n 2 (own_cl c2) 2)))) + ((3 : Int32) * (Int32.ofNat (own_atN f n 3 (own_cl c3) 2)))) + ((4 : Int32) * (Int32.ofNat (own_atN f n 4 (own_cl c4) 2))))]) (pc' := 47) rfl ?_
  refine Goes.callS X 2 [0] [] (D_at2 l Z a0 h0 hw b [.int c0, .int c1, .int c2, .int c3, .int c4, .int c5] f n 5 hf hn (by decide) c5 rfl) (wd hw 80 rfl) (wd hw 81 rfl) (wd hw 4 rfl) (wd hw 82 rfl) pd_y_11 rfl (st := [.int (5 : Int32), .int ((((Int32.ofNat (own_atN f n 1 (own_cl c1) 2)) + ((2 : Int32) * (Int32.ofNat (own_atN f n 2 (own_cl c2) 2)))) + ((3 : Int32) * (Int32.ofNat (own_atN f n 3 (own_cl c3) 2)))) + ((4 : Int32) * (Int32.ofNat (own_atN f n 4 (own_cl c4) 2))))]) rfl rfl (G := []) rfl rfl ?_
  rintro _ _ ⟨rfl, rfl⟩
  refine Goes.runS X [(.imul, 1), (.iadd, 1)] (S' := [.int (((((Int32.ofNat (own_atN f n 1 (own_cl c1) 2)) + ((2 : Int32) * (Int32.ofNat (own_atN f n 2 (own_cl c2) 2)))) + ((3 : Int32) * (Int32.ofNat (own_atN f n 3 (own_cl c3) 2)))) + ((4 : Int32) * (Int32.ofNat (own_atN f n 4 (own_cl c4) 2)))) + ((5 : Int32) * (Int32.ofNat (own_atN f n 5 (own_cl c5) 2))))]) (pc' := 52) rfl ?_
  refine Goes.retI X (by simp) rfl ?_
  exact ⟨by rw [show (2 : Int32) = Int32.ofNat 2 from rfl, show (3 : Int32) = Int32.ofNat 3 from rfl, show (4 : Int32) = Int32.ofNat 4 from rfl, show (5 : Int32) = Int32.ofNat 5 from rfl]; simp only [← Int32.ofNat_mul, ← Int32.ofNat_add]; rfl, rfl⟩
set_option maxRecDepth 65536 in
set_option maxHeartbeats 40000000 in
theorem D_cnt3 (l : Launch) (Z : State) (a0 : Array Value) (h0 : Heap) (hw : ∀ d ∈ tables_1, d.before a0 Z = true) (b : Addr) (c0 c1 c2 c3 c4 c5 : Int32) (f n : Nat) (hf : f ≤ 1) (hn : n ≤ 6) : Does l Z a0 h0 y_10 method_7_code 4 (some .int) ({ frames := 3, cells := 0, slots := 0, locals := 42 } : Room) #[.ref b, .int (Int32.ofNat f), .int (Int32.ofNat n), .int (3 : Int32)] [(b, oC6 c0 c1 c2 c3 c4 c5)] (fun v F => v = some (.int (Int32.ofNat (own_cntN f n 3 (own_cl c0) (own_cl c1) (own_cl c2) (own_cl c3) (own_cl c4) (own_cl c5)))) ∧ F = [(b, oC6 c0 c1 c2 c3 c4 c5)]) := by
  refine Does.mk #[.val (.ref b), .val (.int (Int32.ofNat f)), .val (.int (Int32.ofNat n)), .val (.int (3 : Int32))] (plainFor_of_name (by decide +kernel)) (fun m => by first | (simp [entryFrame, mkF, argsToLocals, Value.category]; done) | rfl) ?_
  intro p e s m args below meth c h X
  show Goes _ _ _ _ _ _ _ _ _ _ _ _ _ _ _ _ _ _ [(b, oC6 c0 c1 c2 c3 c4 c5)] 0 0 (mkF m 0 #[.val (.ref b), .val (.int (Int32.ofNat f)), .val (.int (Int32.ofNat n)), .val (.int (3 : Int32))] [])
  refine Goes.runS X [(.aload_n 0, 1), (.iload_n 1, 1), (.iload_n 2, 1), (.iconst 0, 1), (.iload_n 3, 1)] (S' := [.int (3 : Int32), .int (0 : Int32), .int (Int32.ofNat n), .int (Int32.ofNat f), .ref b]) (pc' := 5) rfl ?_
  refine Goes.callS X 0 [0] [] (D_at3 l Z a0 h0 hw b [.int c0, .int c1, .int c2, .int c3, .int c4, .int c5] f n 0 hf hn (by decide) c0 rfl) (wd hw 80 rfl) (wd hw 81 rfl) (wd hw 4 rfl) (wd hw 82 rfl) pd_y_11 rfl (st := []) rfl rfl (G := []) rfl rfl ?_
  rintro _ _ ⟨rfl, rfl⟩
  refine Goes.runS X [(.aload_n 0, 1), (.iload_n 1, 1), (.iload_n 2, 1), (.iconst 1, 1), (.iload_n 3, 1)] (S' := [.int (3 : Int32), .int (1 : Int32), .int (Int32.ofNat n), .int (Int32.ofNat f), .ref b, .int (Int32.ofNat (own_atN f n 0 (own_cl c0) 3))]) (pc' := 13) rfl ?_
  refine Goes.callS X 1 [0] [] (D_at3 l Z a0 h0 hw b [.int c0, .int c1, .int c2, .int c3, .int c4, .int c5] f n 1 hf hn (by decide) c1 rfl) (wd hw 80 rfl) (wd hw 81 rfl) (wd hw 4 rfl) (wd hw 82 rfl) pd_y_11 rfl (st := [.int (Int32.ofNat (own_atN f n 0 (own_cl c0) 3))]) rfl rfl (G := []) rfl rfl ?_
  rintro _ _ ⟨rfl, rfl⟩
  refine Goes.runS X [(.iadd, 1), (.aload_n 0, 1), (.iload_n 1, 1), (.iload_n 2, 1), (.iconst 2, 1), (.iload_n 3, 1)] (S' := [.int (3 : Int32), .int (2 : Int32), .int (Int32.ofNat n), .int (Int32.ofNat f), .ref b, .int ((Int32.ofNat (own_atN f n 0 (own_cl c0) 3)) + (Int32.ofNat (own_atN f n 1 (own_cl c1) 3)))]) (pc' := 22) rfl ?_
  refine Goes.callS X 1 [0] [] (D_at3 l Z a0 h0 hw b [.int c0, .int c1, .int c2, .int c3, .int c4, .int c5] f n 2 hf hn (by decide) c2 rfl) (wd hw 80 rfl) (wd hw 81 rfl) (wd hw 4 rfl) (wd hw 82 rfl) pd_y_11 rfl (st := [.int ((Int32.ofNat (own_atN f n 0 (own_cl c0) 3)) + (Int32.ofNat (own_atN f n 1 (own_cl c1) 3)))]) rfl rfl (G := []) rfl rfl ?_
  rintro _ _ ⟨rfl, rfl⟩
  refine Goes.runS X [(.iadd, 1), (.aload_n 0, 1), (.iload_n 1, 1), (.iload_n 2, 1), (.iconst 3, 1), (.iload_n 3, 1)] (S' := [.int (3 : Int32), .int (3 : Int32), .int (Int32.ofNat n), .int (Int32.ofNat f), .ref b, .int (((Int32.ofNat (own_atN f n 0 (own_cl c0) 3)) + (Int32.ofNat (own_atN f n 1 (own_cl c1) 3))) + (Int32.ofNat (own_atN f n 2 (own_cl c2) 3)))]) (pc' := 31) rfl ?_
  refine Goes.callS X 1 [0] [] (D_at3 l Z a0 h0 hw b [.int c0, .int c1, .int c2, .int c3, .int c4, .int c5] f n 3 hf hn (by decide) c3 rfl) (wd hw 80 rfl) (wd hw 81 rfl) (wd hw 4 rfl) (wd hw 82 rfl) pd_y_11 rfl (st := [.int (((Int32.ofNat (own_atN f n 0 (own_cl c0) 3)) + (Int32.ofNat (own_atN f n 1 (own_cl c1) 3))) + (Int32.ofNat (own_atN f n 2 (own_cl c2) 3)))]) rfl rfl (G := []) rfl rfl ?_
  rintro _ _ ⟨rfl, rfl⟩
  refine Goes.runS X [(.iadd, 1), (.aload_n 0, 1), (.iload_n 1, 1), (.iload_n 2, 1), (.iconst 4, 1), (.iload_n 3, 1)] (S' := [.int (3 : Int32), .int (4 : Int32), .int (Int32.ofNat n), .int (Int32.ofNat f), .ref b, .int ((((Int32.ofNat (own_atN f n 0 (own_cl c0) 3)) + (Int32.ofNat (own_atN f n 1 (own_cl c1) 3))) + (Int32.ofNat (own_atN f n 2 (own_cl c2) 3))) + (Int32.ofNat (own_atN f n 3 (own_cl c3) 3)))]) (pc' := 40) rfl ?_
  refine Goes.callS X 1 [0] [] (D_at3 l Z a0 h0 hw b [.int c0, .int c1, .int c2, .int c3, .int c4, .int c5] f n 4 hf hn (by decide) c4 rfl) (wd hw 80 rfl) (wd hw 81 rfl) (wd hw 4 rfl) (wd hw 82 rfl) pd_y_11 rfl (st := [.int ((((Int32.ofNat (own_atN f n 0 (own_cl c0) 3)) + (Int32.ofNat (own_atN f n 1 (own_cl c1) 3))) + (Int32.ofNat (own_atN f n 2 (own_cl c2) 3))) + (Int32.ofNat (own_atN f n 3 (own_cl c3) 3)))]) rfl rfl (G := []) rfl rfl ?_
  rintro _ _ ⟨rfl, rfl⟩
  refine Goes.runS X [(.iadd, 1), (.aload_n 0, 1), (.iload_n 1, 1), (.iload_n 2, 1), (.iconst 5, 1), (.iload_n 3, 1)] (S' := [.int (3 : Int32), .int (5 : Int32), .int (Int32.ofNat n), .int (Int32.ofNat f), .ref b, .int (((((Int32.ofNat (own_atN f n 0 (own_cl c0) 3)) + (Int32.ofNat (own_atN f n 1 (own_cl c1) 3))) + (Int32.ofNat (own_atN f n 2 (own_cl c2) 3))) + (Int32.ofNat (own_atN f n 3 (own_cl c3) 3))) + (Int32.ofNat (own_atN f n 4 (own_cl c4) 3)))]) (pc' := 49) rfl ?_
  refine Goes.callS X 1 [0] [] (D_at3 l Z a0 h0 hw b [.int c0, .int c1, .int c2, .int c3, .int c4, .int c5] f n 5 hf hn (by decide) c5 rfl) (wd hw 80 rfl) (wd hw 81 rfl) (wd hw 4 rfl) (wd hw 82 rfl) pd_y_11 rfl (st := [.int (((((Int32.ofNat (own_atN f n 0 (own_cl c0) 3)) + (Int32.ofNat (own_atN f n 1 (own_cl c1) 3))) + (Int32.ofNat (own_atN f n 2 (own_cl c2) 3))) + (Int32.ofNat (own_atN f n 3 (own_cl c3) 3))) + (Int32.ofNat (own_atN f n 4 (own_cl c4) 3)))]) rfl rfl (G := []) rfl rfl ?_
  rintro _ _ ⟨rfl, rfl⟩
  refine Goes.runS X [(.iadd, 1)] (S' := [.int ((((((Int32.ofNat (own_atN f n 0 (own_cl c0) 3)) + (Int32.ofNat (own_atN f n 1 (own_cl c1) 3))) + (Int32.ofNat (own_atN f n 2 (own_cl c2) 3))) + (Int32.ofNat (own_atN f n 3 (own_cl c3) 3))) + (Int32.ofNat (own_atN f n 4 (own_cl c4) 3))) + (Int32.ofNat (own_atN f n 5 (own_cl c5) 3)))]) (pc' := 53) rfl ?_
  refine Goes.retI X (by simp) rfl ?_
  exact ⟨by simp only [← Int32.ofNat_add]; rfl, rfl⟩
theorem own_refA_x {n a : Nat} {L : List Nat} (h : ¬ own_cntL 0 n 3 L = 0) : own_refA n a L = 0 := by unfold own_refA; rw [if_neg h]; split <;> rfl
set_option maxRecDepth 65536 in
set_option maxHeartbeats 40000000 in
theorem D_ref0 (l : Launch) (Z : State) (a0 : Array Value) (h0 : Heap) (hw : ∀ d ∈ tables_1, d.before a0 Z = true) (b : Addr) (c0 c1 c2 c3 c4 c5 : Int32) : Does l Z a0 h0 y_5 method_9_code 9 (some .boolean) ({ frames := 0, cells := 0, slots := 0, locals := 0 } : Room) #[.ref b, .int 0] [(b, oC6 c0 c1 c2 c3 c4 c5)] (fun v F => v = some (.int (Int32.ofNat (own_refN 0 []))) ∧ F = [(b, oC6 c0 c1 c2 c3 c4 c5)]) := by
  refine Does.mk #[.val (.ref b), .val (.int (0 : Int32)), .unset, .unset, .unset, .unset, .unset, .unset, .unset] (plainFor_of_name (by decide +kernel)) (fun m => by first | (simp [entryFrame, mkF, argsToLocals, Value.category]; done) | rfl) ?_
  intro p e s m args below meth c h X
  show Goes _ _ _ _ _ _ _ _ _ _ _ _ _ _ _ _ _ _ [(b, oC6 c0 c1 c2 c3 c4 c5)] 0 0 (mkF m 0 #[.val (.ref b), .val (.int (0 : Int32)), .unset, .unset, .unset, .unset, .unset, .unset, .unset] [])
  have ha : own_refN 0 [] = own_refA 0 0 [] := rfl
  refine Goes.runS X [(.iload_n 1, 1)] (S' := [.int (0 : Int32)]) (pc' := 1) rfl ?_
  refine Goes.if1 X (pc' := 16) (o := 15) (cd := .le) (fun _ => ?_) (fun q => absurd q (by decide))
  refine Goes.run X [(.iconst 0, 1), (.istore_n 2, 1), (.iload_n 1, 1), (.iload_n 2, 1)] (L' := #[.val (.ref b), .val (.int (0 : Int32)), .val (.int (0 : Int32)), .unset, .unset, .unset, .unset, .unset, .unset]) (S' := [.int (0 : Int32), .int (0 : Int32)]) (pc' := 20) rfl ?_
  refine Goes.if2 X (pc' := 25) (o := 5) (cd := .gt) (fun q => absurd q (by decide)) (fun _ => ?_)
  refine Goes.runS X [(.iconst 0, 1)] (S' := [.int (0 : Int32)]) (pc' := 24) rfl ?_
  refine Goes.retI X (by simp) rfl ?_
  exact ⟨rfl, rfl⟩
set_option maxRecDepth 65536 in
set_option maxHeartbeats 40000000 in
theorem D_ref1 (l : Launch) (Z : State) (a0 : Array Value) (h0 : Heap) (hw : ∀ d ∈ tables_1, d.before a0 Z = true) (b : Addr) (c0 c1 c2 c3 c4 c5 : Int32) : Does l Z a0 h0 y_5 method_9_code 9 (some .boolean) ({ frames := 4, cells := 0, slots := 0, locals := 58 } : Room) #[.ref b, .int 1] [(b, oC6 c0 c1 c2 c3 c4 c5)] (fun v F => v = some (.int (Int32.ofNat (own_refN 1 [(own_cl c0)]))) ∧ F = [(b, oC6 c0 c1 c2 c3 c4 c5)]) := by
  refine Does.mk #[.val (.ref b), .val (.int (1 : Int32)), .unset, .unset, .unset, .unset, .unset, .unset, .unset] (plainFor_of_name (by decide +kernel)) (fun m => by first | (simp [entryFrame, mkF, argsToLocals, Value.category]; done) | rfl) ?_
  intro p e s m args below meth c h X
  show Goes _ _ _ _ _ _ _ _ _ _ _ _ _ _ _ _ _ _ [(b, oC6 c0 c1 c2 c3 c4 c5)] 0 0 (mkF m 0 #[.val (.ref b), .val (.int (1 : Int32)), .unset, .unset, .unset, .unset, .unset, .unset, .unset] [])
  refine Goes.runS X [(.iload_n 1, 1)] (S' := [.int (1 : Int32)]) (pc' := 1) rfl ?_
  refine Goes.if1 X (pc' := 16) (o := 15) (cd := .le) (fun q => absurd q (by decide)) (fun _ => ?_)
  refine Goes.runS X [(.aload_n 0, 1), (.iconst 0, 1)] (S' := [.int (0 : Int32), .ref b]) (pc' := 6) rfl ?_
  refine Goes.caload X 0 0 rfl (by decide) (by decide) rfl ?_
  refine Goes.runS X [(.bipush 45, 2)] (S' := [.int (45 : Int32), .int c0]) (pc' := 9) rfl ?_
  refine Goes.if2 X (pc' := 16) (o := 7) (cd := .ne) (fun q248 => ?_) (fun q248 => ?_)
  · have h249 : ¬ c0 = 45 := by simpa [if_icmp.holds] using q248
    have ha : own_refN 1 [(own_cl c0)] = own_refA 1 0 [(own_cl c0)] := congrArg (fun z => own_refA 1 z [(own_cl c0)]) (if_neg fun z => h249 ((own_cl0 _).mp z.2))
    refine Goes.runS X [(.iconst 0, 1)] (S' := [.int (0 : Int32)]) (pc' := 17) rfl ?_
    refine Goes.run X [(.istore_n 2, 1), (.iload_n 1, 1), (.iload_n 2, 1)] (L' := #[.val (.ref b), .val (.int (1 : Int32)), .val (.int (0 : Int32)), .unset, .unset, .unset, .unset, .unset, .unset]) (S' := [.int (0 : Int32), .int (1 : Int32)]) (pc' := 20) rfl ?_
    refine Goes.if2 X (pc' := 25) (o := 5) (cd := .gt) (fun _ => ?_) (fun q => absurd q (by decide))
    refine Goes.runS X [(.aload_n 0, 1), (.iconst 0, 1), (.iload_n 1, 1), (.iconst 3, 1)] (S' := [.int (3 : Int32), .int (1 : Int32), .int (0 : Int32), .ref b]) (pc' := 29) rfl ?_
    refine Goes.callS X 0 [0] [] (D_cnt3 l Z a0 h0 hw b c0 c1 c2 c3 c4 c5 0 1 (by decide) (by decide)) (wd hw 77 rfl) (wd hw 78 rfl) (wd hw 4 rfl) (wd hw 79 rfl) pd_y_10 rfl (st := []) rfl rfl (G := []) rfl rfl ?_
    rintro _ _ ⟨rfl, rfl⟩
    obtain ⟨x251, hx252⟩ : ∃ x, own_cntL 0 1 3 [(own_cl c0)] = x := ⟨_, rfl⟩
    rw [show own_cntN 0 1 3 (own_cl c0) (own_cl c1) (own_cl c2) (own_cl c3) (own_cl c4) (own_cl c5) = x251 from hx252]
    show Goes _ _ _ _ _ _ _ _ _ _ _ _ _ _ _ _ _ _ [(b, oC6 c0 c1 c2 c3 c4 c5)] 0 0 (mkF m 32 #[.val (.ref b), .val (.int (1 : Int32)), .val (.int (0 : Int32)), .unset, .unset, .unset, .unset, .unset, .unset] [.int (Int32.ofNat x251)])
    have B250 : x251 ≤ 15 := hx252 ▸ Nat.le_trans (own_cntN_le _ _ _ _ _ _ _ _ _) (by decide)
    refine Goes.if1 X (pc' := 37) (o := 5) (cd := .eq) (fun q253 => ?_) (fun q253 => ?_)
    · have h254 := own_sT (own_s0 _ B250) q253
      refine Goes.runS X [(.aload_n 0, 1), (.iload_n 2, 1)] (S' := [.int (0 : Int32), .ref b]) (pc' := 39) rfl ?_
      refine Goes.caload X 0 0 rfl (by decide) (by decide) rfl ?_
      refine Goes.callS X 0 [] [0] (D_dg l Z a0 h0 hw c0) (wd hw 86 rfl) (wd hw 87 rfl) (wd hw 4 rfl) (wd hw 88 rfl) pd_y_13 rfl (st := []) rfl rfl (G := [(b, oC6 c0 c1 c2 c3 c4 c5)]) rfl rfl ?_
      rintro _ _ ⟨rfl, rfl⟩
      refine Goes.if1 X (pc' := 57) (o := 14) (cd := .eq) (fun q255 => ?_) (fun q255 => ?_)
      · have h256 : own_dig c0 = 0 := by simpa [ifCond.holds] using q255
        have g257 : ¬ own_g [(own_cl c0)] 0 = 4 := by show ¬ own_cl c0 = 4; rw [own_cl4]; simpa using h256
        refine Goes.runS X [(.iconst 0, 1)] (S' := [.int (0 : Int32)]) (pc' := 58) rfl ?_
        refine Goes.retI X (by simp) rfl ?_
        exact ⟨by rw [ha, own_refA]; (try simp only [hx252, Nat.reduceSub, Nat.reduceAdd]); (repeat' split) <;> first | rfl | (exfalso; omega), rfl⟩
      · have h258 : ¬ own_dig c0 = 0 := by simpa [ifCond.holds] using q255
        have g259 : own_g [(own_cl c0)] 0 = 4 := by show own_cl c0 = 4; rw [own_cl4]; simpa using h258
        refine Goes.runS X [(.aload_n 0, 1), (.iload_n 1, 1), (.iconst 1, 1), (.isub, 1)] (S' := [.int (0 : Int32), .ref b]) (pc' := 50) rfl ?_
        refine Goes.caload X 0 0 rfl (by decide) (by decide) rfl ?_
        refine Goes.callS X 0 [] [0] (D_dg l Z a0 h0 hw c0) (wd hw 86 rfl) (wd hw 87 rfl) (wd hw 4 rfl) (wd hw 88 rfl) pd_y_13 rfl (st := []) rfl rfl (G := [(b, oC6 c0 c1 c2 c3 c4 c5)]) rfl rfl ?_
        rintro _ _ ⟨rfl, rfl⟩
        refine Goes.if1 X (pc' := 59) (o := 5) (cd := .ne) (fun q260 => ?_) (fun q260 => ?_)
        · have h261 : ¬ own_dig c0 = 0 := by simpa [ifCond.holds] using q260
          have g262 : own_g [(own_cl c0)] 0 = 4 := by show own_cl c0 = 4; rw [own_cl4]; simpa using h261
          refine Goes.runS X [(.aload_n 0, 1), (.iconst 0, 1), (.iload_n 1, 1), (.iconst 0, 1)] (S' := [.int (0 : Int32), .int (1 : Int32), .int (0 : Int32), .ref b]) (pc' := 63) rfl ?_
          refine Goes.callS X 0 [0] [] (D_cnt0 l Z a0 h0 hw b c0 c1 c2 c3 c4 c5 0 1 (by decide) (by decide)) (wd hw 77 rfl) (wd hw 78 rfl) (wd hw 4 rfl) (wd hw 79 rfl) pd_y_10 rfl (st := []) rfl rfl (G := []) rfl rfl ?_
          rintro _ _ ⟨rfl, rfl⟩
          obtain ⟨x264, hx265⟩ : ∃ x, own_cntL 0 1 0 [(own_cl c0)] = x := ⟨_, rfl⟩
          rw [show own_cntN 0 1 0 (own_cl c0) (own_cl c1) (own_cl c2) (own_cl c3) (own_cl c4) (own_cl c5) = x264 from hx265]
          show Goes _ _ _ _ _ _ _ _ _ _ _ _ _ _ _ _ _ _ [(b, oC6 c0 c1 c2 c3 c4 c5)] 0 0 (mkF m 66 #[.val (.ref b), .val (.int (1 : Int32)), .val (.int (0 : Int32)), .unset, .unset, .unset, .unset, .unset, .unset] [.int (Int32.ofNat x264)])
          have B263 : x264 ≤ 15 := hx265 ▸ Nat.le_trans (own_cntN_le _ _ _ _ _ _ _ _ _) (by decide)
          refine Goes.run X [(.istore_n 3, 1), (.aload_n 0, 1), (.iconst 0, 1), (.iload_n 1, 1), (.iconst 1, 1)] (L' := #[.val (.ref b), .val (.int (1 : Int32)), .val (.int (0 : Int32)), .val (.int (Int32.ofNat x264)), .unset, .unset, .unset, .unset, .unset]) (S' := [.int (1 : Int32), .int (1 : Int32), .int (0 : Int32), .ref b]) (pc' := 71) rfl ?_
          refine Goes.callS X 0 [0] [] (D_cnt1 l Z a0 h0 hw b c0 c1 c2 c3 c4 c5 0 1 (by decide) (by decide)) (wd hw 77 rfl) (wd hw 78 rfl) (wd hw 4 rfl) (wd hw 79 rfl) pd_y_10 rfl (st := []) rfl rfl (G := []) rfl rfl ?_
          rintro _ _ ⟨rfl, rfl⟩
          obtain ⟨x267, hx268⟩ : ∃ x, own_cntL 0 1 1 [(own_cl c0)] = x := ⟨_, rfl⟩
          rw [show own_cntN 0 1 1 (own_cl c0) (own_cl c1) (own_cl c2) (own_cl c3) (own_cl c4) (own_cl c5) = x267 from hx268]
          show Goes _ _ _ _ _ _ _ _ _ _ _ _ _ _ _ _ _ _ [(b, oC6 c0 c1 c2 c3 c4 c5)] 0 0 (mkF m 74 #[.val (.ref b), .val (.int (1 : Int32)), .val (.int (0 : Int32)), .val (.int (Int32.ofNat x264)), .unset, .unset, .unset, .unset, .unset] [.int (Int32.ofNat x267)])
          have B266 : x267 ≤ 15 := hx268 ▸ Nat.le_trans (own_cntN_le _ _ _ _ _ _ _ _ _) (by decide)
          refine Goes.run X [(.istore 4, 2), (.aload_n 0, 1), (.iload_n 2, 1), (.iload_n 1, 1), (.iconst 2, 1)] (L' := #[.val (.ref b), .val (.int (1 : Int32)), .val (.int (0 : Int32)), .val (.int (Int32.ofNat x264)), .val (.int (Int32.ofNat x267)), .unset, .unset, .unset, .unset]) (S' := [.int (2 : Int32), .int (1 : Int32), .int (0 : Int32), .ref b]) (pc' := 80) rfl ?_
          refine Goes.callS X 0 [0] [] (D_cnt2 l Z a0 h0 hw b c0 c1 c2 c3 c4 c5 0 1 (by decide) (by decide)) (wd hw 77 rfl) (wd hw 78 rfl) (wd hw 4 rfl) (wd hw 79 rfl) pd_y_10 rfl (st := []) rfl rfl (G := []) rfl rfl ?_
          rintro _ _ ⟨rfl, rfl⟩
          obtain ⟨x270, hx271⟩ : ∃ x, own_cntL 0 1 2 [(own_cl c0)] = x := ⟨_, rfl⟩
          rw [show own_cntN 0 1 2 (own_cl c0) (own_cl c1) (own_cl c2) (own_cl c3) (own_cl c4) (own_cl c5) = x270 from hx271]
          show Goes _ _ _ _ _ _ _ _ _ _ _ _ _ _ _ _ _ _ [(b, oC6 c0 c1 c2 c3 c4 c5)] 0 0 (mkF m 83 #[.val (.ref b), .val (.int (1 : Int32)), .val (.int (0 : Int32)), .val (.int (Int32.ofNat x264)), .val (.int (Int32.ofNat x267)), .unset, .unset, .unset, .unset] [.int (Int32.ofNat x270)])
          have B269 : x270 ≤ 15 := hx271 ▸ Nat.le_trans (own_cntN_le _ _ _ _ _ _ _ _ _) (by decide)
          refine Goes.run X [(.istore 5, 2), (.iload_n 3, 1), (.iconst 1, 1)] (L' := #[.val (.ref b), .val (.int (1 : Int32)), .val (.int (0 : Int32)), .val (.int (Int32.ofNat x264)), .val (.int (Int32.ofNat x267)), .val (.int (Int32.ofNat x270)), .unset, .unset, .unset]) (S' := [.int (1 : Int32), .int (Int32.ofNat x264)]) (pc' := 87) rfl ?_
          refine Goes.if2 X (pc' := 102) (o := 15) (cd := .gt) (fun q272 => ?_) (fun q272 => ?_)
          · have h273 := own_sT (own_s1 _ B263) q272
            refine Goes.runS X [(.iconst 0, 1)] (S' := [.int (0 : Int32)]) (pc' := 103) rfl ?_
            refine Goes.retI X (by simp) rfl ?_
            exact ⟨by rw [ha, own_refA]; (try simp only [hx252, hx265, hx268, hx271, Nat.reduceSub, Nat.reduceAdd]); (repeat' split) <;> first | rfl | (exfalso; omega), rfl⟩
          · have h274 := own_sF (own_s1 _ B263) q272
            refine Goes.runS X [(.iload 4, 2), (.iconst 1, 1)] (S' := [.int (1 : Int32), .int (Int32.ofNat x267)]) (pc' := 93) rfl ?_
            refine Goes.if2 X (pc' := 102) (o := 9) (cd := .gt) (fun q275 => ?_) (fun q275 => ?_)
            · have h276 := own_sT (own_s1 _ B266) q275
              refine Goes.runS X [(.iconst 0, 1)] (S' := [.int (0 : Int32)]) (pc' := 103) rfl ?_
              refine Goes.retI X (by simp) rfl ?_
              exact ⟨by rw [ha, own_refA]; (try simp only [hx252, hx265, hx268, hx271, Nat.reduceSub, Nat.reduceAdd]); (repeat' split) <;> first | rfl | (exfalso; omega), rfl⟩
            · have h277 := own_sF (own_s1 _ B266) q275
              refine Goes.runS X [(.iload 5, 2), (.iconst 1, 1)] (S' := [.int (1 : Int32), .int (Int32.ofNat x270)]) (pc' := 99) rfl ?_
              refine Goes.if2 X (pc' := 104) (o := 5) (cd := .le) (fun q278 => ?_) (fun q278 => ?_)
              · have h279 := own_sT (own_s1' _ B269) q278
                refine Goes.runS X [(.aload_n 0, 1), (.iconst 0, 1), (.iload_n 1, 1), (.iconst 0, 1)] (S' := [.int (0 : Int32), .int (1 : Int32), .int (0 : Int32), .ref b]) (pc' := 108) rfl ?_
                refine Goes.callS X 0 [0] [] (D_pos0 l Z a0 h0 hw b c0 c1 c2 c3 c4 c5 0 1 (by decide) (by decide)) (wd hw 118 rfl) (wd hw 119 rfl) (wd hw 4 rfl) (wd hw 120 rfl) pd_y_20 rfl (st := []) rfl rfl (G := []) rfl rfl ?_
                rintro _ _ ⟨rfl, rfl⟩
                obtain ⟨x281, hx282⟩ : ∃ x, own_posL 0 1 0 [(own_cl c0)] = x := ⟨_, rfl⟩
                rw [show own_posN 0 1 0 (own_cl c1) (own_cl c2) (own_cl c3) (own_cl c4) (own_cl c5) = x281 from hx282]
                show Goes _ _ _ _ _ _ _ _ _ _ _ _ _ _ _ _ _ _ [(b, oC6 c0 c1 c2 c3 c4 c5)] 0 0 (mkF m 111 #[.val (.ref b), .val (.int (1 : Int32)), .val (.int (0 : Int32)), .val (.int (Int32.ofNat x264)), .val (.int (Int32.ofNat x267)), .val (.int (Int32.ofNat x270)), .unset, .unset, .unset] [.int (Int32.ofNat x281)])
                have B280 : x281 ≤ 15 := hx282 ▸ own_posN_le _ _ _ _ _ _ _ _
                refine Goes.run X [(.istore 6, 2), (.aload_n 0, 1), (.iconst 0, 1), (.iload_n 1, 1), (.iconst 1, 1)] (L' := #[.val (.ref b), .val (.int (1 : Int32)), .val (.int (0 : Int32)), .val (.int (Int32.ofNat x264)), .val (.int (Int32.ofNat x267)), .val (.int (Int32.ofNat x270)), .val (.int (Int32.ofNat x281)), .unset, .unset]) (S' := [.int (1 : Int32), .int (1 : Int32), .int (0 : Int32), .ref b]) (pc' := 117) rfl ?_
                refine Goes.callS X 0 [0] [] (D_pos1 l Z a0 h0 hw b c0 c1 c2 c3 c4 c5 0 1 (by decide) (by decide)) (wd hw 118 rfl) (wd hw 119 rfl) (wd hw 4 rfl) (wd hw 120 rfl) pd_y_20 rfl (st := []) rfl rfl (G := []) rfl rfl ?_
                rintro _ _ ⟨rfl, rfl⟩
                obtain ⟨x284, hx285⟩ : ∃ x, own_posL 0 1 1 [(own_cl c0)] = x := ⟨_, rfl⟩
                rw [show own_posN 0 1 1 (own_cl c1) (own_cl c2) (own_cl c3) (own_cl c4) (own_cl c5) = x284 from hx285]
                show Goes _ _ _ _ _ _ _ _ _ _ _ _ _ _ _ _ _ _ [(b, oC6 c0 c1 c2 c3 c4 c5)] 0 0 (mkF m 120 #[.val (.ref b), .val (.int (1 : Int32)), .val (.int (0 : Int32)), .val (.int (Int32.ofNat x264)), .val (.int (Int32.ofNat x267)), .val (.int (Int32.ofNat x270)), .val (.int (Int32.ofNat x281)), .unset, .unset] [.int (Int32.ofNat x284)])
                have B283 : x284 ≤ 15 := hx285 ▸ own_posN_le _ _ _ _ _ _ _ _
                refine Goes.run X [(.istore 7, 2), (.aload_n 0, 1), (.iload_n 2, 1), (.iload_n 1, 1), (.iconst 2, 1)] (L' := #[.val (.ref b), .val (.int (1 : Int32)), .val (.int (0 : Int32)), .val (.int (Int32.ofNat x264)), .val (.int (Int32.ofNat x267)), .val (.int (Int32.ofNat x270)), .val (.int (Int32.ofNat x281)), .val (.int (Int32.ofNat x284)), .unset]) (S' := [.int (2 : Int32), .int (1 : Int32), .int (0 : Int32), .ref b]) (pc' := 126) rfl ?_
                refine Goes.callS X 0 [0] [] (D_pos2 l Z a0 h0 hw b c0 c1 c2 c3 c4 c5 0 1 (by decide) (by decide)) (wd hw 118 rfl) (wd hw 119 rfl) (wd hw 4 rfl) (wd hw 120 rfl) pd_y_20 rfl (st := []) rfl rfl (G := []) rfl rfl ?_
                rintro _ _ ⟨rfl, rfl⟩
                obtain ⟨x287, hx288⟩ : ∃ x, own_posL 0 1 2 [(own_cl c0)] = x := ⟨_, rfl⟩
                rw [show own_posN 0 1 2 (own_cl c1) (own_cl c2) (own_cl c3) (own_cl c4) (own_cl c5) = x287 from hx288]
                show Goes _ _ _ _ _ _ _ _ _ _ _ _ _ _ _ _ _ _ [(b, oC6 c0 c1 c2 c3 c4 c5)] 0 0 (mkF m 129 #[.val (.ref b), .val (.int (1 : Int32)), .val (.int (0 : Int32)), .val (.int (Int32.ofNat x264)), .val (.int (Int32.ofNat x267)), .val (.int (Int32.ofNat x270)), .val (.int (Int32.ofNat x281)), .val (.int (Int32.ofNat x284)), .unset] [.int (Int32.ofNat x287)])
                have B286 : x287 ≤ 15 := hx288 ▸ own_posN_le _ _ _ _ _ _ _ _
                refine Goes.run X [(.istore 8, 2), (.iload 5, 2), (.iconst 1, 1)] (L' := #[.val (.ref b), .val (.int (1 : Int32)), .val (.int (0 : Int32)), .val (.int (Int32.ofNat x264)), .val (.int (Int32.ofNat x267)), .val (.int (Int32.ofNat x270)), .val (.int (Int32.ofNat x281)), .val (.int (Int32.ofNat x284)), .val (.int (Int32.ofNat x287))]) (S' := [.int (1 : Int32), .int (Int32.ofNat x270)]) (pc' := 134) rfl ?_
                have J3 : ∀ (g1 : ¬ (x270 = 1 ∧ (x267 = 0 ∨ ¬ x287 = x284 + 1))) (g2 : ¬ (x264 = 1 ∧ x267 = 1 ∧ x284 < x281)), Goes p l e ({ frames := 4, cells := 0, slots := 0, locals := 58 } : Room) s m args below meth c Z a0 h0 h ([(b, oC6 c0 c1 c2 c3 c4 c5)].map (·.1)) ({ frames := 4, cells := 0, slots := 0, locals := 58 } : Room).cells ({ frames := 4, cells := 0, slots := 0, locals := 58 } : Room).slots (fun v F => v = some (.int (Int32.ofNat (own_refN 1 [(own_cl c0)]))) ∧ F = [(b, oC6 c0 c1 c2 c3 c4 c5)]) [(b, oC6 c0 c1 c2 c3 c4 c5)] 0 0 (mkF m 173 #[.val (.ref b), .val (.int (1 : Int32)), .val (.int (0 : Int32)), .val (.int (Int32.ofNat x264)), .val (.int (Int32.ofNat x267)), .val (.int (Int32.ofNat x270)), .val (.int (Int32.ofNat x281)), .val (.int (Int32.ofNat x284)), .val (.int (Int32.ofNat x287))] []) := by
                  intro g1 g2
                  refine Goes.runS X [(.iload_n 3, 1), (.iconst 1, 1)] (S' := [.int (1 : Int32), .int (Int32.ofNat x264)]) (pc' := 175) rfl ?_
                  refine Goes.if2 X (pc' := 200) (o := 25) (cd := .ne) (fun q289 => ?_) (fun q289 => ?_)
                  · have h290 := own_sT (own_s2 _ B263) q289
                    refine Goes.runS X [(.iconst 1, 1)] (S' := [.int (1 : Int32)]) (pc' := 201) rfl ?_
                    refine Goes.retI X (by simp) rfl ?_
                    exact ⟨by rw [ha, own_refA]; (try simp only [hx252, hx265, hx268, hx271, hx282, hx285, hx288, Nat.reduceSub, Nat.reduceAdd]); (repeat' split) <;> first | rfl | (exfalso; omega), rfl⟩
                  · have h291 := own_sF (own_s2 _ B263) q289
                    have h291 := Classical.not_not.mp h291
                    refine Goes.runS X [(.iload 6, 2), (.iconst 1, 1), (.iadd, 1), (.iload_n 1, 1)] (S' := [.int (1 : Int32), .int ((Int32.ofNat x281) + (1 : Int32))]) (pc' := 183) rfl ?_
                    refine Goes.if2 X (pc' := 198) (o := 15) (cd := .ge) (fun q292 => ?_) (fun q292 => ?_)
                    · have h293 := own_sT (own_s5 1 (by decide) _ B280) q292
                      refine Goes.runS X [(.iconst 0, 1)] (S' := [.int (0 : Int32)]) (pc' := 199) rfl ?_
                      refine Goes.retI X (by simp) rfl ?_
                      exact ⟨by rw [ha, own_refA]; (try simp only [hx252, hx265, hx268, hx271, hx282, hx285, hx288, Nat.reduceSub, Nat.reduceAdd]); (repeat' split) <;> first | rfl | (exfalso; omega), rfl⟩
                    · have h294 := own_sF (own_s5 1 (by decide) _ B280) q292
                      have h294 := Classical.not_not.mp h294
                      refine Goes.runS X [(.aload_n 0, 1), (.iload 6, 2), (.iconst 1, 1), (.iadd, 1)] (S' := [.int ((Int32.ofNat x281) + (1 : Int32)), .ref b]) (pc' := 191) rfl ?_
                      exact absurd h294 (by omega)
                have J2 : ∀ (g1 : ¬ (x270 = 1 ∧ (x267 = 0 ∨ ¬ x287 = x284 + 1))), Goes p l e ({ frames := 4, cells := 0, slots := 0, locals := 58 } : Room) s m args below meth c Z a0 h0 h ([(b, oC6 c0 c1 c2 c3 c4 c5)].map (·.1)) ({ frames := 4, cells := 0, slots := 0, locals := 58 } : Room).cells ({ frames := 4, cells := 0, slots := 0, locals := 58 } : Room).slots (fun v F => v = some (.int (Int32.ofNat (own_refN 1 [(own_cl c0)]))) ∧ F = [(b, oC6 c0 c1 c2 c3 c4 c5)]) [(b, oC6 c0 c1 c2 c3 c4 c5)] 0 0 (mkF m 153 #[.val (.ref b), .val (.int (1 : Int32)), .val (.int (0 : Int32)), .val (.int (Int32.ofNat x264)), .val (.int (Int32.ofNat x267)), .val (.int (Int32.ofNat x270)), .val (.int (Int32.ofNat x281)), .val (.int (Int32.ofNat x284)), .val (.int (Int32.ofNat x287))] []) := by
                  intro g1
                  refine Goes.runS X [(.iload_n 3, 1), (.iconst 1, 1)] (S' := [.int (1 : Int32), .int (Int32.ofNat x264)]) (pc' := 155) rfl ?_
                  refine Goes.if2 X (pc' := 173) (o := 18) (cd := .ne) (fun q295 => ?_) (fun q295 => ?_)
                  · have h296 := own_sT (own_s2 _ B263) q295
                    exact J3 g1 (fun z => h296 z.1)
                  · have h297 := own_sF (own_s2 _ B263) q295
                    have h297 := Classical.not_not.mp h297
                    refine Goes.runS X [(.iload 4, 2), (.iconst 1, 1)] (S' := [.int (1 : Int32), .int (Int32.ofNat x267)]) (pc' := 161) rfl ?_
                    refine Goes.if2 X (pc' := 173) (o := 12) (cd := .ne) (fun q298 => ?_) (fun q298 => ?_)
                    · have h299 := own_sT (own_s2 _ B266) q298
                      exact J3 g1 (fun z => h299 z.2.1)
                    · have h300 := own_sF (own_s2 _ B266) q298
                      have h300 := Classical.not_not.mp h300
                      refine Goes.runS X [(.iload 6, 2), (.iload 7, 2)] (S' := [.int (Int32.ofNat x284), .int (Int32.ofNat x281)]) (pc' := 168) rfl ?_
                      refine Goes.if2 X (pc' := 173) (o := 5) (cd := .le) (fun q301 => ?_) (fun q301 => ?_)
                      · have h302 := own_sT (own_s4 _ B280 _ B283) q301
                        exact J3 g1 (fun z => h302 z.2.2)
                      · have h303 := own_sF (own_s4 _ B280 _ B283) q301
                        have h303 := Classical.not_not.mp h303
                        refine Goes.runS X [(.iconst 0, 1)] (S' := [.int (0 : Int32)]) (pc' := 172) rfl ?_
                        refine Goes.retI X (by simp) rfl ?_
                        exact ⟨by rw [ha, own_refA]; (try simp only [hx252, hx265, hx268, hx271, hx282, hx285, hx288, Nat.reduceSub, Nat.reduceAdd]); (repeat' split) <;> first | rfl | (exfalso; omega), rfl⟩
                refine Goes.if2 X (pc' := 153) (o := 19) (cd := .ne) (fun q304 => ?_) (fun q304 => ?_)
                · have h305 := own_sT (own_s2 _ B269) q304
                  exact J2 (fun z => h305 z.1)
                · have h306 := own_sF (own_s2 _ B269) q304
                  have h306 := Classical.not_not.mp h306
                  refine Goes.runS X [(.iload 4, 2)] (S' := [.int (Int32.ofNat x267)]) (pc' := 139) rfl ?_
                  refine Goes.if1 X (pc' := 151) (o := 12) (cd := .eq) (fun q307 => ?_) (fun q307 => ?_)
                  · have h308 := own_sT (own_s0 _ B266) q307
                    refine Goes.runS X [(.iconst 0, 1)] (S' := [.int (0 : Int32)]) (pc' := 152) rfl ?_
                    refine Goes.retI X (by simp) rfl ?_
                    exact ⟨by rw [ha, own_refA]; (try simp only [hx252, hx265, hx268, hx271, hx282, hx285, hx288, Nat.reduceSub, Nat.reduceAdd]); (repeat' split) <;> first | rfl | (exfalso; omega), rfl⟩
                  · have h309 := own_sF (own_s0 _ B266) q307
                    refine Goes.runS X [(.iload 8, 2), (.iload 7, 2), (.iconst 1, 1), (.iadd, 1)] (S' := [.int ((Int32.ofNat x284) + (1 : Int32)), .int (Int32.ofNat x287)]) (pc' := 148) rfl ?_
                    refine Goes.if2 X (pc' := 153) (o := 5) (cd := .eq) (fun q310 => ?_) (fun q310 => ?_)
                    · have h311 := own_sT (own_s3 _ B286 _ B283) q310
                      exact J2 (fun z => z.2.elim h309 (fun y => y h311))
                    · have h312 := own_sF (own_s3 _ B286 _ B283) q310
                      refine Goes.runS X [(.iconst 0, 1)] (S' := [.int (0 : Int32)]) (pc' := 152) rfl ?_
                      refine Goes.retI X (by simp) rfl ?_
                      exact ⟨by rw [ha, own_refA]; (try simp only [hx252, hx265, hx268, hx271, hx282, hx285, hx288, Nat.reduceSub, Nat.reduceAdd]); (repeat' split) <;> first | rfl | (exfalso; omega), rfl⟩
              · have h313 := own_sF (own_s1' _ B269) q278
                have h313 := Classical.not_not.mp h313
                refine Goes.runS X [(.iconst 0, 1)] (S' := [.int (0 : Int32)]) (pc' := 103) rfl ?_
                refine Goes.retI X (by simp) rfl ?_
                exact ⟨by rw [ha, own_refA]; (try simp only [hx252, hx265, hx268, hx271, Nat.reduceSub, Nat.reduceAdd]); (repeat' split) <;> first | rfl | (exfalso; omega), rfl⟩
        · have h314 : own_dig c0 = 0 := by simpa [ifCond.holds] using q260
          have g315 : ¬ own_g [(own_cl c0)] 0 = 4 := by show ¬ own_cl c0 = 4; rw [own_cl4]; simpa using h314
          refine Goes.runS X [(.iconst 0, 1)] (S' := [.int (0 : Int32)]) (pc' := 58) rfl ?_
          refine Goes.retI X (by simp) rfl ?_
          exact ⟨by rw [ha, own_refA]; (try simp only [hx252, Nat.reduceSub, Nat.reduceAdd]); (repeat' split) <;> first | rfl | (exfalso; omega), rfl⟩
    · have h316 := own_sF (own_s0 _ B250) q253
      refine Goes.runS X [(.iconst 0, 1)] (S' := [.int (0 : Int32)]) (pc' := 36) rfl ?_
      refine Goes.retI X (by simp) rfl ?_
      exact ⟨by rw [ha, own_refA_x (by rw [hx252]; omega)] <;> rfl, rfl⟩
  · have h317 : c0 = 45 := by simpa [if_icmp.holds] using q248
    have ha : own_refN 1 [(own_cl c0)] = own_refA 1 1 [(own_cl c0)] := congrArg (fun z => own_refA 1 z [(own_cl c0)]) (if_pos ⟨by decide, (own_cl0 _).mpr h317⟩)
    refine Goes.runS X [(.iconst 1, 1)] (S' := [.int (1 : Int32)]) (pc' := 13) rfl ?_
    refine Goes.goto X (o := 4) (pc' := 17) ?_
    refine Goes.run X [(.istore_n 2, 1), (.iload_n 1, 1), (.iload_n 2, 1)] (L' := #[.val (.ref b), .val (.int (1 : Int32)), .val (.int (1 : Int32)), .unset, .unset, .unset, .unset, .unset, .unset]) (S' := [.int (1 : Int32), .int (1 : Int32)]) (pc' := 20) rfl ?_
    refine Goes.if2 X (pc' := 25) (o := 5) (cd := .gt) (fun q => absurd q (by decide)) (fun _ => ?_)
    refine Goes.runS X [(.iconst 0, 1)] (S' := [.int (0 : Int32)]) (pc' := 24) rfl ?_
    refine Goes.retI X (by simp) rfl ?_
    exact ⟨by rw [ha, own_refA]; (try simp only [Nat.reduceSub, Nat.reduceAdd]); (repeat' split) <;> first | rfl | (exfalso; omega), rfl⟩
set_option maxRecDepth 65536 in
set_option maxHeartbeats 40000000 in
theorem D_ref2 (l : Launch) (Z : State) (a0 : Array Value) (h0 : Heap) (hw : ∀ d ∈ tables_1, d.before a0 Z = true) (b : Addr) (c0 c1 c2 c3 c4 c5 : Int32) : Does l Z a0 h0 y_5 method_9_code 9 (some .boolean) ({ frames := 4, cells := 0, slots := 0, locals := 58 } : Room) #[.ref b, .int 2] [(b, oC6 c0 c1 c2 c3 c4 c5)] (fun v F => v = some (.int (Int32.ofNat (own_refN 2 [(own_cl c0), (own_cl c1)]))) ∧ F = [(b, oC6 c0 c1 c2 c3 c4 c5)]) := by
  refine Does.mk #[.val (.ref b), .val (.int (2 : Int32)), .unset, .unset, .unset, .unset, .unset, .unset, .unset] (plainFor_of_name (by decide +kernel)) (fun m => by first | (simp [entryFrame, mkF, argsToLocals, Value.category]; done) | rfl) ?_
  intro p e s m args below meth c h X
  show Goes _ _ _ _ _ _ _ _ _ _ _ _ _ _ _ _ _ _ [(b, oC6 c0 c1 c2 c3 c4 c5)] 0 0 (mkF m 0 #[.val (.ref b), .val (.int (2 : Int32)), .unset, .unset, .unset, .unset, .unset, .unset, .unset] [])
  refine Goes.runS X [(.iload_n 1, 1)] (S' := [.int (2 : Int32)]) (pc' := 1) rfl ?_
  refine Goes.if1 X (pc' := 16) (o := 15) (cd := .le) (fun q => absurd q (by decide)) (fun _ => ?_)
  refine Goes.runS X [(.aload_n 0, 1), (.iconst 0, 1)] (S' := [.int (0 : Int32), .ref b]) (pc' := 6) rfl ?_
  refine Goes.caload X 0 0 rfl (by decide) (by decide) rfl ?_
  refine Goes.runS X [(.bipush 45, 2)] (S' := [.int (45 : Int32), .int c0]) (pc' := 9) rfl ?_
  refine Goes.if2 X (pc' := 16) (o := 7) (cd := .ne) (fun q318 => ?_) (fun q318 => ?_)
  · have h319 : ¬ c0 = 45 := by simpa [if_icmp.holds] using q318
    have ha : own_refN 2 [(own_cl c0), (own_cl c1)] = own_refA 2 0 [(own_cl c0), (own_cl c1)] := congrArg (fun z => own_refA 2 z [(own_cl c0), (own_cl c1)]) (if_neg fun z => h319 ((own_cl0 _).mp z.2))
    refine Goes.runS X [(.iconst 0, 1)] (S' := [.int (0 : Int32)]) (pc' := 17) rfl ?_
    refine Goes.run X [(.istore_n 2, 1), (.iload_n 1, 1), (.iload_n 2, 1)] (L' := #[.val (.ref b), .val (.int (2 : Int32)), .val (.int (0 : Int32)), .unset, .unset, .unset, .unset, .unset, .unset]) (S' := [.int (0 : Int32), .int (2 : Int32)]) (pc' := 20) rfl ?_
    refine Goes.if2 X (pc' := 25) (o := 5) (cd := .gt) (fun _ => ?_) (fun q => absurd q (by decide))
    refine Goes.runS X [(.aload_n 0, 1), (.iconst 0, 1), (.iload_n 1, 1), (.iconst 3, 1)] (S' := [.int (3 : Int32), .int (2 : Int32), .int (0 : Int32), .ref b]) (pc' := 29) rfl ?_
    refine Goes.callS X 0 [0] [] (D_cnt3 l Z a0 h0 hw b c0 c1 c2 c3 c4 c5 0 2 (by decide) (by decide)) (wd hw 77 rfl) (wd hw 78 rfl) (wd hw 4 rfl) (wd hw 79 rfl) pd_y_10 rfl (st := []) rfl rfl (G := []) rfl rfl ?_
    rintro _ _ ⟨rfl, rfl⟩
    obtain ⟨x321, hx322⟩ : ∃ x, own_cntL 0 2 3 [(own_cl c0), (own_cl c1)] = x := ⟨_, rfl⟩
    rw [show own_cntN 0 2 3 (own_cl c0) (own_cl c1) (own_cl c2) (own_cl c3) (own_cl c4) (own_cl c5) = x321 from hx322]
    show Goes _ _ _ _ _ _ _ _ _ _ _ _ _ _ _ _ _ _ [(b, oC6 c0 c1 c2 c3 c4 c5)] 0 0 (mkF m 32 #[.val (.ref b), .val (.int (2 : Int32)), .val (.int (0 : Int32)), .unset, .unset, .unset, .unset, .unset, .unset] [.int (Int32.ofNat x321)])
    have B320 : x321 ≤ 15 := hx322 ▸ Nat.le_trans (own_cntN_le _ _ _ _ _ _ _ _ _) (by decide)
    refine Goes.if1 X (pc' := 37) (o := 5) (cd := .eq) (fun q323 => ?_) (fun q323 => ?_)
    · have h324 := own_sT (own_s0 _ B320) q323
      refine Goes.runS X [(.aload_n 0, 1), (.iload_n 2, 1)] (S' := [.int (0 : Int32), .ref b]) (pc' := 39) rfl ?_
      refine Goes.caload X 0 0 rfl (by decide) (by decide) rfl ?_
      refine Goes.callS X 0 [] [0] (D_dg l Z a0 h0 hw c0) (wd hw 86 rfl) (wd hw 87 rfl) (wd hw 4 rfl) (wd hw 88 rfl) pd_y_13 rfl (st := []) rfl rfl (G := [(b, oC6 c0 c1 c2 c3 c4 c5)]) rfl rfl ?_
      rintro _ _ ⟨rfl, rfl⟩
      refine Goes.if1 X (pc' := 57) (o := 14) (cd := .eq) (fun q325 => ?_) (fun q325 => ?_)
      · have h326 : own_dig c0 = 0 := by simpa [ifCond.holds] using q325
        have g327 : ¬ own_g [(own_cl c0), (own_cl c1)] 0 = 4 := by show ¬ own_cl c0 = 4; rw [own_cl4]; simpa using h326
        refine Goes.runS X [(.iconst 0, 1)] (S' := [.int (0 : Int32)]) (pc' := 58) rfl ?_
        refine Goes.retI X (by simp) rfl ?_
        exact ⟨by rw [ha, own_refA]; (try simp only [hx322, Nat.reduceSub, Nat.reduceAdd]); (repeat' split) <;> first | rfl | (exfalso; omega), rfl⟩
      · have h328 : ¬ own_dig c0 = 0 := by simpa [ifCond.holds] using q325
        have g329 : own_g [(own_cl c0), (own_cl c1)] 0 = 4 := by show own_cl c0 = 4; rw [own_cl4]; simpa using h328
        refine Goes.runS X [(.aload_n 0, 1), (.iload_n 1, 1), (.iconst 1, 1), (.isub, 1)] (S' := [.int (1 : Int32), .ref b]) (pc' := 50) rfl ?_
        refine Goes.caload X 0 1 rfl (by decide) (by decide) rfl ?_
        refine Goes.callS X 0 [] [0] (D_dg l Z a0 h0 hw c1) (wd hw 86 rfl) (wd hw 87 rfl) (wd hw 4 rfl) (wd hw 88 rfl) pd_y_13 rfl (st := []) rfl rfl (G := [(b, oC6 c0 c1 c2 c3 c4 c5)]) rfl rfl ?_
        rintro _ _ ⟨rfl, rfl⟩
        refine Goes.if1 X (pc' := 59) (o := 5) (cd := .ne) (fun q330 => ?_) (fun q330 => ?_)
        · have h331 : ¬ own_dig c1 = 0 := by simpa [ifCond.holds] using q330
          have g332 : own_g [(own_cl c0), (own_cl c1)] 1 = 4 := by show own_cl c1 = 4; rw [own_cl4]; simpa using h331
          refine Goes.runS X [(.aload_n 0, 1), (.iconst 0, 1), (.iload_n 1, 1), (.iconst 0, 1)] (S' := [.int (0 : Int32), .int (2 : Int32), .int (0 : Int32), .ref b]) (pc' := 63) rfl ?_
          refine Goes.callS X 0 [0] [] (D_cnt0 l Z a0 h0 hw b c0 c1 c2 c3 c4 c5 0 2 (by decide) (by decide)) (wd hw 77 rfl) (wd hw 78 rfl) (wd hw 4 rfl) (wd hw 79 rfl) pd_y_10 rfl (st := []) rfl rfl (G := []) rfl rfl ?_
          rintro _ _ ⟨rfl, rfl⟩
          obtain ⟨x334, hx335⟩ : ∃ x, own_cntL 0 2 0 [(own_cl c0), (own_cl c1)] = x := ⟨_, rfl⟩
          rw [show own_cntN 0 2 0 (own_cl c0) (own_cl c1) (own_cl c2) (own_cl c3) (own_cl c4) (own_cl c5) = x334 from hx335]
          show Goes _ _ _ _ _ _ _ _ _ _ _ _ _ _ _ _ _ _ [(b, oC6 c0 c1 c2 c3 c4 c5)] 0 0 (mkF m 66 #[.val (.ref b), .val (.int (2 : Int32)), .val (.int (0 : Int32)), .unset, .unset, .unset, .unset, .unset, .unset] [.int (Int32.ofNat x334)])
          have B333 : x334 ≤ 15 := hx335 ▸ Nat.le_trans (own_cntN_le _ _ _ _ _ _ _ _ _) (by decide)
          refine Goes.run X [(.istore_n 3, 1), (.aload_n 0, 1), (.iconst 0, 1), (.iload_n 1, 1), (.iconst 1, 1)] (L' := #[.val (.ref b), .val (.int (2 : Int32)), .val (.int (0 : Int32)), .val (.int (Int32.ofNat x334)), .unset, .unset, .unset, .unset, .unset]) (S' := [.int (1 : Int32), .int (2 : Int32), .int (0 : Int32), .ref b]) (pc' := 71) rfl ?_
          refine Goes.callS X 0 [0] [] (D_cnt1 l Z a0 h0 hw b c0 c1 c2 c3 c4 c5 0 2 (by decide) (by decide)) (wd hw 77 rfl) (wd hw 78 rfl) (wd hw 4 rfl) (wd hw 79 rfl) pd_y_10 rfl (st := []) rfl rfl (G := []) rfl rfl ?_
          rintro _ _ ⟨rfl, rfl⟩
          obtain ⟨x337, hx338⟩ : ∃ x, own_cntL 0 2 1 [(own_cl c0), (own_cl c1)] = x := ⟨_, rfl⟩
          rw [show own_cntN 0 2 1 (own_cl c0) (own_cl c1) (own_cl c2) (own_cl c3) (own_cl c4) (own_cl c5) = x337 from hx338]
          show Goes _ _ _ _ _ _ _ _ _ _ _ _ _ _ _ _ _ _ [(b, oC6 c0 c1 c2 c3 c4 c5)] 0 0 (mkF m 74 #[.val (.ref b), .val (.int (2 : Int32)), .val (.int (0 : Int32)), .val (.int (Int32.ofNat x334)), .unset, .unset, .unset, .unset, .unset] [.int (Int32.ofNat x337)])
          have B336 : x337 ≤ 15 := hx338 ▸ Nat.le_trans (own_cntN_le _ _ _ _ _ _ _ _ _) (by decide)
          refine Goes.run X [(.istore 4, 2), (.aload_n 0, 1), (.iload_n 2, 1), (.iload_n 1, 1), (.iconst 2, 1)] (L' := #[.val (.ref b), .val (.int (2 : Int32)), .val (.int (0 : Int32)), .val (.int (Int32.ofNat x334)), .val (.int (Int32.ofNat x337)), .unset, .unset, .unset, .unset]) (S' := [.int (2 : Int32), .int (2 : Int32), .int (0 : Int32), .ref b]) (pc' := 80) rfl ?_
          refine Goes.callS X 0 [0] [] (D_cnt2 l Z a0 h0 hw b c0 c1 c2 c3 c4 c5 0 2 (by decide) (by decide)) (wd hw 77 rfl) (wd hw 78 rfl) (wd hw 4 rfl) (wd hw 79 rfl) pd_y_10 rfl (st := []) rfl rfl (G := []) rfl rfl ?_
          rintro _ _ ⟨rfl, rfl⟩
          obtain ⟨x340, hx341⟩ : ∃ x, own_cntL 0 2 2 [(own_cl c0), (own_cl c1)] = x := ⟨_, rfl⟩
          rw [show own_cntN 0 2 2 (own_cl c0) (own_cl c1) (own_cl c2) (own_cl c3) (own_cl c4) (own_cl c5) = x340 from hx341]
          show Goes _ _ _ _ _ _ _ _ _ _ _ _ _ _ _ _ _ _ [(b, oC6 c0 c1 c2 c3 c4 c5)] 0 0 (mkF m 83 #[.val (.ref b), .val (.int (2 : Int32)), .val (.int (0 : Int32)), .val (.int (Int32.ofNat x334)), .val (.int (Int32.ofNat x337)), .unset, .unset, .unset, .unset] [.int (Int32.ofNat x340)])
          have B339 : x340 ≤ 15 := hx341 ▸ Nat.le_trans (own_cntN_le _ _ _ _ _ _ _ _ _) (by decide)
          refine Goes.run X [(.istore 5, 2), (.iload_n 3, 1), (.iconst 1, 1)] (L' := #[.val (.ref b), .val (.int (2 : Int32)), .val (.int (0 : Int32)), .val (.int (Int32.ofNat x334)), .val (.int (Int32.ofNat x337)), .val (.int (Int32.ofNat x340)), .unset, .unset, .unset]) (S' := [.int (1 : Int32), .int (Int32.ofNat x334)]) (pc' := 87) rfl ?_
          refine Goes.if2 X (pc' := 102) (o := 15) (cd := .gt) (fun q342 => ?_) (fun q342 => ?_)
          · have h343 := own_sT (own_s1 _ B333) q342
            refine Goes.runS X [(.iconst 0, 1)] (S' := [.int (0 : Int32)]) (pc' := 103) rfl ?_
            refine Goes.retI X (by simp) rfl ?_
            exact ⟨by rw [ha, own_refA]; (try simp only [hx322, hx335, hx338, hx341, Nat.reduceSub, Nat.reduceAdd]); (repeat' split) <;> first | rfl | (exfalso; omega), rfl⟩
          · have h344 := own_sF (own_s1 _ B333) q342
            refine Goes.runS X [(.iload 4, 2), (.iconst 1, 1)] (S' := [.int (1 : Int32), .int (Int32.ofNat x337)]) (pc' := 93) rfl ?_
            refine Goes.if2 X (pc' := 102) (o := 9) (cd := .gt) (fun q345 => ?_) (fun q345 => ?_)
            · have h346 := own_sT (own_s1 _ B336) q345
              refine Goes.runS X [(.iconst 0, 1)] (S' := [.int (0 : Int32)]) (pc' := 103) rfl ?_
              refine Goes.retI X (by simp) rfl ?_
              exact ⟨by rw [ha, own_refA]; (try simp only [hx322, hx335, hx338, hx341, Nat.reduceSub, Nat.reduceAdd]); (repeat' split) <;> first | rfl | (exfalso; omega), rfl⟩
            · have h347 := own_sF (own_s1 _ B336) q345
              refine Goes.runS X [(.iload 5, 2), (.iconst 1, 1)] (S' := [.int (1 : Int32), .int (Int32.ofNat x340)]) (pc' := 99) rfl ?_
              refine Goes.if2 X (pc' := 104) (o := 5) (cd := .le) (fun q348 => ?_) (fun q348 => ?_)
              · have h349 := own_sT (own_s1' _ B339) q348
                refine Goes.runS X [(.aload_n 0, 1), (.iconst 0, 1), (.iload_n 1, 1), (.iconst 0, 1)] (S' := [.int (0 : Int32), .int (2 : Int32), .int (0 : Int32), .ref b]) (pc' := 108) rfl ?_
                refine Goes.callS X 0 [0] [] (D_pos0 l Z a0 h0 hw b c0 c1 c2 c3 c4 c5 0 2 (by decide) (by decide)) (wd hw 118 rfl) (wd hw 119 rfl) (wd hw 4 rfl) (wd hw 120 rfl) pd_y_20 rfl (st := []) rfl rfl (G := []) rfl rfl ?_
                rintro _ _ ⟨rfl, rfl⟩
                obtain ⟨x351, hx352⟩ : ∃ x, own_posL 0 2 0 [(own_cl c0), (own_cl c1)] = x := ⟨_, rfl⟩
                rw [show own_posN 0 2 0 (own_cl c1) (own_cl c2) (own_cl c3) (own_cl c4) (own_cl c5) = x351 from hx352]
                show Goes _ _ _ _ _ _ _ _ _ _ _ _ _ _ _ _ _ _ [(b, oC6 c0 c1 c2 c3 c4 c5)] 0 0 (mkF m 111 #[.val (.ref b), .val (.int (2 : Int32)), .val (.int (0 : Int32)), .val (.int (Int32.ofNat x334)), .val (.int (Int32.ofNat x337)), .val (.int (Int32.ofNat x340)), .unset, .unset, .unset] [.int (Int32.ofNat x351)])
                have B350 : x351 ≤ 15 := hx352 ▸ own_posN_le _ _ _ _ _ _ _ _
                refine Goes.run X [(.istore 6, 2), (.aload_n 0, 1), (.iconst 0, 1), (.iload_n 1, 1), (.iconst 1, 1)] (L' := #[.val (.ref b), .val (.int (2 : Int32)), .val (.int (0 : Int32)), .val (.int (Int32.ofNat x334)), .val (.int (Int32.ofNat x337)), .val (.int (Int32.ofNat x340)), .val (.int (Int32.ofNat x351)), .unset, .unset]) (S' := [.int (1 : Int32), .int (2 : Int32), .int (0 : Int32), .ref b]) (pc' := 117) rfl ?_
                refine Goes.callS X 0 [0] [] (D_pos1 l Z a0 h0 hw b c0 c1 c2 c3 c4 c5 0 2 (by decide) (by decide)) (wd hw 118 rfl) (wd hw 119 rfl) (wd hw 4 rfl) (wd hw 120 rfl) pd_y_20 rfl (st := []) rfl rfl (G := []) rfl rfl ?_
                rintro _ _ ⟨rfl, rfl⟩
                obtain ⟨x354, hx355⟩ : ∃ x, own_posL 0 2 1 [(own_cl c0), (own_cl c1)] = x := ⟨_, rfl⟩
                rw [show own_posN 0 2 1 (own_cl c1) (own_cl c2) (own_cl c3) (own_cl c4) (own_cl c5) = x354 from hx355]
                show Goes _ _ _ _ _ _ _ _ _ _ _ _ _ _ _ _ _ _ [(b, oC6 c0 c1 c2 c3 c4 c5)] 0 0 (mkF m 120 #[.val (.ref b), .val (.int (2 : Int32)), .val (.int (0 : Int32)), .val (.int (Int32.ofNat x334)), .val (.int (Int32.ofNat x337)), .val (.int (Int32.ofNat x340)), .val (.int (Int32.ofNat x351)), .unset, .unset] [.int (Int32.ofNat x354)])
                have B353 : x354 ≤ 15 := hx355 ▸ own_posN_le _ _ _ _ _ _ _ _
                refine Goes.run X [(.istore 7, 2), (.aload_n 0, 1), (.iload_n 2, 1), (.iload_n 1, 1), (.iconst 2, 1)] (L' := #[.val (.ref b), .val (.int (2 : Int32)), .val (.int (0 : Int32)), .val (.int (Int32.ofNat x334)), .val (.int (Int32.ofNat x337)), .val (.int (Int32.ofNat x340)), .val (.int (Int32.ofNat x351)), .val (.int (Int32.ofNat x354)), .unset]) (S' := [.int (2 : Int32), .int (2 : Int32), .int (0 : Int32), .ref b]) (pc' := 126) rfl ?_
                refine Goes.callS X 0 [0] [] (D_pos2 l Z a0 h0 hw b c0 c1 c2 c3 c4 c5 0 2 (by decide) (by decide)) (wd hw 118 rfl) (wd hw 119 rfl) (wd hw 4 rfl) (wd hw 120 rfl) pd_y_20 rfl (st := []) rfl rfl (G := []) rfl rfl ?_
                rintro _ _ ⟨rfl, rfl⟩
                obtain ⟨x357, hx358⟩ : ∃ x, own_posL 0 2 2 [(own_cl c0), (own_cl c1)] = x := ⟨_, rfl⟩
                rw [show own_posN 0 2 2 (own_cl c1) (own_cl c2) (own_cl c3) (own_cl c4) (own_cl c5) = x357 from hx358]
                show Goes _ _ _ _ _ _ _ _ _ _ _ _ _ _ _ _ _ _ [(b, oC6 c0 c1 c2 c3 c4 c5)] 0 0 (mkF m 129 #[.val (.ref b), .val (.int (2 : Int32)), .val (.int (0 : Int32)), .val (.int (Int32.ofNat x334)), .val (.int (Int32.ofNat x337)), .val (.int (Int32.ofNat x340)), .val (.int (Int32.ofNat x351)), .val (.int (Int32.ofNat x354)), .unset] [.int (Int32.ofNat x357)])
                have B356 : x357 ≤ 15 := hx358 ▸ own_posN_le _ _ _ _ _ _ _ _
                refine Goes.run X [(.istore 8, 2), (.iload 5, 2), (.iconst 1, 1)] (L' := #[.val (.ref b), .val (.int (2 : Int32)), .val (.int (0 : Int32)), .val (.int (Int32.ofNat x334)), .val (.int (Int32.ofNat x337)), .val (.int (Int32.ofNat x340)), .val (.int (Int32.ofNat x351)), .val (.int (Int32.ofNat x354)), .val (.int (Int32.ofNat x357))]) (S' := [.int (1 : Int32), .int (Int32.ofNat x340)]) (pc' := 134) rfl ?_
                have J3 : ∀ (g1 : ¬ (x340 = 1 ∧ (x337 = 0 ∨ ¬ x357 = x354 + 1))) (g2 : ¬ (x334 = 1 ∧ x337 = 1 ∧ x354 < x351)), Goes p l e ({ frames := 4, cells := 0, slots := 0, locals := 58 } : Room) s m args below meth c Z a0 h0 h ([(b, oC6 c0 c1 c2 c3 c4 c5)].map (·.1)) ({ frames := 4, cells := 0, slots := 0, locals := 58 } : Room).cells ({ frames := 4, cells := 0, slots := 0, locals := 58 } : Room).slots (fun v F => v = some (.int (Int32.ofNat (own_refN 2 [(own_cl c0), (own_cl c1)]))) ∧ F = [(b, oC6 c0 c1 c2 c3 c4 c5)]) [(b, oC6 c0 c1 c2 c3 c4 c5)] 0 0 (mkF m 173 #[.val (.ref b), .val (.int (2 : Int32)), .val (.int (0 : Int32)), .val (.int (Int32.ofNat x334)), .val (.int (Int32.ofNat x337)), .val (.int (Int32.ofNat x340)), .val (.int (Int32.ofNat x351)), .val (.int (Int32.ofNat x354)), .val (.int (Int32.ofNat x357))] []) := by
                  intro g1 g2
                  refine Goes.runS X [(.iload_n 3, 1), (.iconst 1, 1)] (S' := [.int (1 : Int32), .int (Int32.ofNat x334)]) (pc' := 175) rfl ?_
                  refine Goes.if2 X (pc' := 200) (o := 25) (cd := .ne) (fun q359 => ?_) (fun q359 => ?_)
                  · have h360 := own_sT (own_s2 _ B333) q359
                    refine Goes.runS X [(.iconst 1, 1)] (S' := [.int (1 : Int32)]) (pc' := 201) rfl ?_
                    refine Goes.retI X (by simp) rfl ?_
                    exact ⟨by rw [ha, own_refA]; (try simp only [hx322, hx335, hx338, hx341, hx352, hx355, hx358, Nat.reduceSub, Nat.reduceAdd]); (repeat' split) <;> first | rfl | (exfalso; omega), rfl⟩
                  · have h361 := own_sF (own_s2 _ B333) q359
                    have h361 := Classical.not_not.mp h361
                    refine Goes.runS X [(.iload 6, 2), (.iconst 1, 1), (.iadd, 1), (.iload_n 1, 1)] (S' := [.int (2 : Int32), .int ((Int32.ofNat x351) + (1 : Int32))]) (pc' := 183) rfl ?_
                    refine Goes.if2 X (pc' := 198) (o := 15) (cd := .ge) (fun q362 => ?_) (fun q362 => ?_)
                    · have h363 := own_sT (own_s5 2 (by decide) _ B350) q362
                      refine Goes.runS X [(.iconst 0, 1)] (S' := [.int (0 : Int32)]) (pc' := 199) rfl ?_
                      refine Goes.retI X (by simp) rfl ?_
                      exact ⟨by rw [ha, own_refA]; (try simp only [hx322, hx335, hx338, hx341, hx352, hx355, hx358, Nat.reduceSub, Nat.reduceAdd]); (repeat' split) <;> first | rfl | (exfalso; omega), rfl⟩
                    · have h364 := own_sF (own_s5 2 (by decide) _ B350) q362
                      have h364 := Classical.not_not.mp h364
                      refine Goes.runS X [(.aload_n 0, 1), (.iload 6, 2), (.iconst 1, 1), (.iadd, 1)] (S' := [.int ((Int32.ofNat x351) + (1 : Int32)), .ref b]) (pc' := 191) rfl ?_
                      have z365 : x351 = 0 := by omega
                      rcases z365 with z365
                      · rw [z365]
                        show Goes _ _ _ _ _ _ _ _ _ _ _ _ _ _ _ _ _ _ [(b, oC6 c0 c1 c2 c3 c4 c5)] 0 0 (mkF m 191 #[.val (.ref b), .val (.int (2 : Int32)), .val (.int (0 : Int32)), .val (.int (Int32.ofNat x334)), .val (.int (Int32.ofNat x337)), .val (.int (Int32.ofNat x340)), .val (.int (Int32.ofNat 0)), .val (.int (Int32.ofNat x354)), .val (.int (Int32.ofNat x357))] [.int ((Int32.ofNat 0) + (1 : Int32)), .ref b])
                        refine Goes.caload X 0 1 rfl (by decide) (by decide) rfl ?_
                        refine Goes.callS X 0 [] [0] (D_dg l Z a0 h0 hw c1) (wd hw 86 rfl) (wd hw 87 rfl) (wd hw 4 rfl) (wd hw 88 rfl) pd_y_13 rfl (st := []) rfl rfl (G := [(b, oC6 c0 c1 c2 c3 c4 c5)]) rfl rfl ?_
                        rintro _ _ ⟨rfl, rfl⟩
                        refine Goes.if1 X (pc' := 200) (o := 5) (cd := .ne) (fun q366 => ?_) (fun q366 => ?_)
                        · have h367 : ¬ own_dig c1 = 0 := by simpa [ifCond.holds] using q366
                          have g368 : own_g [(own_cl c0), (own_cl c1)] 1 = 4 := by show own_cl c1 = 4; rw [own_cl4]; simpa using h367
                          refine Goes.runS X [(.iconst 1, 1)] (S' := [.int (1 : Int32)]) (pc' := 201) rfl ?_
                          refine Goes.retI X (by simp) rfl ?_
                          exact ⟨by rw [ha, own_refA]; (try simp only [hx322, hx335, hx338, hx341, hx352, hx355, hx358, z365, Nat.reduceSub, Nat.reduceAdd]); (repeat' split) <;> first | rfl | (exfalso; omega), rfl⟩
                        · have h369 : own_dig c1 = 0 := by simpa [ifCond.holds] using q366
                          have g370 : ¬ own_g [(own_cl c0), (own_cl c1)] 1 = 4 := by show ¬ own_cl c1 = 4; rw [own_cl4]; simpa using h369
                          refine Goes.runS X [(.iconst 0, 1)] (S' := [.int (0 : Int32)]) (pc' := 199) rfl ?_
                          refine Goes.retI X (by simp) rfl ?_
                          exact ⟨by rw [ha, own_refA]; (try simp only [hx322, hx335, hx338, hx341, hx352, hx355, hx358, z365, Nat.reduceSub, Nat.reduceAdd]); (repeat' split) <;> first | rfl | (exfalso; omega), rfl⟩
                have J2 : ∀ (g1 : ¬ (x340 = 1 ∧ (x337 = 0 ∨ ¬ x357 = x354 + 1))), Goes p l e ({ frames := 4, cells := 0, slots := 0, locals := 58 } : Room) s m args below meth c Z a0 h0 h ([(b, oC6 c0 c1 c2 c3 c4 c5)].map (·.1)) ({ frames := 4, cells := 0, slots := 0, locals := 58 } : Room).cells ({ frames := 4, cells := 0, slots := 0, locals := 58 } : Room).slots (fun v F => v = some (.int (Int32.ofNat (own_refN 2 [(own_cl c0), (own_cl c1)]))) ∧ F = [(b, oC6 c0 c1 c2 c3 c4 c5)]) [(b, oC6 c0 c1 c2 c3 c4 c5)] 0 0 (mkF m 153 #[.val (.ref b), .val (.int (2 : Int32)), .val (.int (0 : Int32)), .val (.int (Int32.ofNat x334)), .val (.int (Int32.ofNat x337)), .val (.int (Int32.ofNat x340)), .val (.int (Int32.ofNat x351)), .val (.int (Int32.ofNat x354)), .val (.int (Int32.ofNat x357))] []) := by
                  intro g1
                  refine Goes.runS X [(.iload_n 3, 1), (.iconst 1, 1)] (S' := [.int (1 : Int32), .int (Int32.ofNat x334)]) (pc' := 155) rfl ?_
                  refine Goes.if2 X (pc' := 173) (o := 18) (cd := .ne) (fun q371 => ?_) (fun q371 => ?_)
                  · have h372 := own_sT (own_s2 _ B333) q371
                    exact J3 g1 (fun z => h372 z.1)
                  · have h373 := own_sF (own_s2 _ B333) q371
                    have h373 := Classical.not_not.mp h373
                    refine Goes.runS X [(.iload 4, 2), (.iconst 1, 1)] (S' := [.int (1 : Int32), .int (Int32.ofNat x337)]) (pc' := 161) rfl ?_
                    refine Goes.if2 X (pc' := 173) (o := 12) (cd := .ne) (fun q374 => ?_) (fun q374 => ?_)
                    · have h375 := own_sT (own_s2 _ B336) q374
                      exact J3 g1 (fun z => h375 z.2.1)
                    · have h376 := own_sF (own_s2 _ B336) q374
                      have h376 := Classical.not_not.mp h376
                      refine Goes.runS X [(.iload 6, 2), (.iload 7, 2)] (S' := [.int (Int32.ofNat x354), .int (Int32.ofNat x351)]) (pc' := 168) rfl ?_
                      refine Goes.if2 X (pc' := 173) (o := 5) (cd := .le) (fun q377 => ?_) (fun q377 => ?_)
                      · have h378 := own_sT (own_s4 _ B350 _ B353) q377
                        exact J3 g1 (fun z => h378 z.2.2)
                      · have h379 := own_sF (own_s4 _ B350 _ B353) q377
                        have h379 := Classical.not_not.mp h379
                        refine Goes.runS X [(.iconst 0, 1)] (S' := [.int (0 : Int32)]) (pc' := 172) rfl ?_
                        refine Goes.retI X (by simp) rfl ?_
                        exact ⟨by rw [ha, own_refA]; (try simp only [hx322, hx335, hx338, hx341, hx352, hx355, hx358, Nat.reduceSub, Nat.reduceAdd]); (repeat' split) <;> first | rfl | (exfalso; omega), rfl⟩
                refine Goes.if2 X (pc' := 153) (o := 19) (cd := .ne) (fun q380 => ?_) (fun q380 => ?_)
                · have h381 := own_sT (own_s2 _ B339) q380
                  exact J2 (fun z => h381 z.1)
                · have h382 := own_sF (own_s2 _ B339) q380
                  have h382 := Classical.not_not.mp h382
                  refine Goes.runS X [(.iload 4, 2)] (S' := [.int (Int32.ofNat x337)]) (pc' := 139) rfl ?_
                  refine Goes.if1 X (pc' := 151) (o := 12) (cd := .eq) (fun q383 => ?_) (fun q383 => ?_)
                  · have h384 := own_sT (own_s0 _ B336) q383
                    refine Goes.runS X [(.iconst 0, 1)] (S' := [.int (0 : Int32)]) (pc' := 152) rfl ?_
                    refine Goes.retI X (by simp) rfl ?_
                    exact ⟨by rw [ha, own_refA]; (try simp only [hx322, hx335, hx338, hx341, hx352, hx355, hx358, Nat.reduceSub, Nat.reduceAdd]); (repeat' split) <;> first | rfl | (exfalso; omega), rfl⟩
                  · have h385 := own_sF (own_s0 _ B336) q383
                    refine Goes.runS X [(.iload 8, 2), (.iload 7, 2), (.iconst 1, 1), (.iadd, 1)] (S' := [.int ((Int32.ofNat x354) + (1 : Int32)), .int (Int32.ofNat x357)]) (pc' := 148) rfl ?_
                    refine Goes.if2 X (pc' := 153) (o := 5) (cd := .eq) (fun q386 => ?_) (fun q386 => ?_)
                    · have h387 := own_sT (own_s3 _ B356 _ B353) q386
                      exact J2 (fun z => z.2.elim h385 (fun y => y h387))
                    · have h388 := own_sF (own_s3 _ B356 _ B353) q386
                      refine Goes.runS X [(.iconst 0, 1)] (S' := [.int (0 : Int32)]) (pc' := 152) rfl ?_
                      refine Goes.retI X (by simp) rfl ?_
                      exact ⟨by rw [ha, own_refA]; (try simp only [hx322, hx335, hx338, hx341, hx352, hx355, hx358, Nat.reduceSub, Nat.reduceAdd]); (repeat' split) <;> first | rfl | (exfalso; omega), rfl⟩
              · have h389 := own_sF (own_s1' _ B339) q348
                have h389 := Classical.not_not.mp h389
                refine Goes.runS X [(.iconst 0, 1)] (S' := [.int (0 : Int32)]) (pc' := 103) rfl ?_
                refine Goes.retI X (by simp) rfl ?_
                exact ⟨by rw [ha, own_refA]; (try simp only [hx322, hx335, hx338, hx341, Nat.reduceSub, Nat.reduceAdd]); (repeat' split) <;> first | rfl | (exfalso; omega), rfl⟩
        · have h390 : own_dig c1 = 0 := by simpa [ifCond.holds] using q330
          have g391 : ¬ own_g [(own_cl c0), (own_cl c1)] 1 = 4 := by show ¬ own_cl c1 = 4; rw [own_cl4]; simpa using h390
          refine Goes.runS X [(.iconst 0, 1)] (S' := [.int (0 : Int32)]) (pc' := 58) rfl ?_
          refine Goes.retI X (by simp) rfl ?_
          exact ⟨by rw [ha, own_refA]; (try simp only [hx322, Nat.reduceSub, Nat.reduceAdd]); (repeat' split) <;> first | rfl | (exfalso; omega), rfl⟩
    · have h392 := own_sF (own_s0 _ B320) q323
      refine Goes.runS X [(.iconst 0, 1)] (S' := [.int (0 : Int32)]) (pc' := 36) rfl ?_
      refine Goes.retI X (by simp) rfl ?_
      exact ⟨by rw [ha, own_refA_x (by rw [hx322]; omega)] <;> rfl, rfl⟩
  · have h393 : c0 = 45 := by simpa [if_icmp.holds] using q318
    have ha : own_refN 2 [(own_cl c0), (own_cl c1)] = own_refA 2 1 [(own_cl c0), (own_cl c1)] := congrArg (fun z => own_refA 2 z [(own_cl c0), (own_cl c1)]) (if_pos ⟨by decide, (own_cl0 _).mpr h393⟩)
    refine Goes.runS X [(.iconst 1, 1)] (S' := [.int (1 : Int32)]) (pc' := 13) rfl ?_
    refine Goes.goto X (o := 4) (pc' := 17) ?_
    refine Goes.run X [(.istore_n 2, 1), (.iload_n 1, 1), (.iload_n 2, 1)] (L' := #[.val (.ref b), .val (.int (2 : Int32)), .val (.int (1 : Int32)), .unset, .unset, .unset, .unset, .unset, .unset]) (S' := [.int (1 : Int32), .int (2 : Int32)]) (pc' := 20) rfl ?_
    refine Goes.if2 X (pc' := 25) (o := 5) (cd := .gt) (fun _ => ?_) (fun q => absurd q (by decide))
    refine Goes.runS X [(.aload_n 0, 1), (.iconst 0, 1), (.iload_n 1, 1), (.iconst 3, 1)] (S' := [.int (3 : Int32), .int (2 : Int32), .int (0 : Int32), .ref b]) (pc' := 29) rfl ?_
    refine Goes.callS X 0 [0] [] (D_cnt3 l Z a0 h0 hw b c0 c1 c2 c3 c4 c5 0 2 (by decide) (by decide)) (wd hw 77 rfl) (wd hw 78 rfl) (wd hw 4 rfl) (wd hw 79 rfl) pd_y_10 rfl (st := []) rfl rfl (G := []) rfl rfl ?_
    rintro _ _ ⟨rfl, rfl⟩
    obtain ⟨x395, hx396⟩ : ∃ x, own_cntL 0 2 3 [(own_cl c0), (own_cl c1)] = x := ⟨_, rfl⟩
    rw [show own_cntN 0 2 3 (own_cl c0) (own_cl c1) (own_cl c2) (own_cl c3) (own_cl c4) (own_cl c5) = x395 from hx396]
    show Goes _ _ _ _ _ _ _ _ _ _ _ _ _ _ _ _ _ _ [(b, oC6 c0 c1 c2 c3 c4 c5)] 0 0 (mkF m 32 #[.val (.ref b), .val (.int (2 : Int32)), .val (.int (1 : Int32)), .unset, .unset, .unset, .unset, .unset, .unset] [.int (Int32.ofNat x395)])
    have B394 : x395 ≤ 15 := hx396 ▸ Nat.le_trans (own_cntN_le _ _ _ _ _ _ _ _ _) (by decide)
    refine Goes.if1 X (pc' := 37) (o := 5) (cd := .eq) (fun q397 => ?_) (fun q397 => ?_)
    · have h398 := own_sT (own_s0 _ B394) q397
      refine Goes.runS X [(.aload_n 0, 1), (.iload_n 2, 1)] (S' := [.int (1 : Int32), .ref b]) (pc' := 39) rfl ?_
      refine Goes.caload X 0 1 rfl (by decide) (by decide) rfl ?_
      refine Goes.callS X 0 [] [0] (D_dg l Z a0 h0 hw c1) (wd hw 86 rfl) (wd hw 87 rfl) (wd hw 4 rfl) (wd hw 88 rfl) pd_y_13 rfl (st := []) rfl rfl (G := [(b, oC6 c0 c1 c2 c3 c4 c5)]) rfl rfl ?_
      rintro _ _ ⟨rfl, rfl⟩
      refine Goes.if1 X (pc' := 57) (o := 14) (cd := .eq) (fun q399 => ?_) (fun q399 => ?_)
      · have h400 : own_dig c1 = 0 := by simpa [ifCond.holds] using q399
        have g401 : ¬ own_g [(own_cl c0), (own_cl c1)] 1 = 4 := by show ¬ own_cl c1 = 4; rw [own_cl4]; simpa using h400
        refine Goes.runS X [(.iconst 0, 1)] (S' := [.int (0 : Int32)]) (pc' := 58) rfl ?_
        refine Goes.retI X (by simp) rfl ?_
        exact ⟨by rw [ha, own_refA]; (try simp only [hx396, Nat.reduceSub, Nat.reduceAdd]); (repeat' split) <;> first | rfl | (exfalso; omega), rfl⟩
      · have h402 : ¬ own_dig c1 = 0 := by simpa [ifCond.holds] using q399
        have g403 : own_g [(own_cl c0), (own_cl c1)] 1 = 4 := by show own_cl c1 = 4; rw [own_cl4]; simpa using h402
        refine Goes.runS X [(.aload_n 0, 1), (.iload_n 1, 1), (.iconst 1, 1), (.isub, 1)] (S' := [.int (1 : Int32), .ref b]) (pc' := 50) rfl ?_
        refine Goes.caload X 0 1 rfl (by decide) (by decide) rfl ?_
        refine Goes.callS X 0 [] [0] (D_dg l Z a0 h0 hw c1) (wd hw 86 rfl) (wd hw 87 rfl) (wd hw 4 rfl) (wd hw 88 rfl) pd_y_13 rfl (st := []) rfl rfl (G := [(b, oC6 c0 c1 c2 c3 c4 c5)]) rfl rfl ?_
        rintro _ _ ⟨rfl, rfl⟩
        refine Goes.if1 X (pc' := 59) (o := 5) (cd := .ne) (fun q404 => ?_) (fun q404 => ?_)
        · have h405 : ¬ own_dig c1 = 0 := by simpa [ifCond.holds] using q404
          have g406 : own_g [(own_cl c0), (own_cl c1)] 1 = 4 := by show own_cl c1 = 4; rw [own_cl4]; simpa using h405
          refine Goes.runS X [(.aload_n 0, 1), (.iconst 0, 1), (.iload_n 1, 1), (.iconst 0, 1)] (S' := [.int (0 : Int32), .int (2 : Int32), .int (0 : Int32), .ref b]) (pc' := 63) rfl ?_
          refine Goes.callS X 0 [0] [] (D_cnt0 l Z a0 h0 hw b c0 c1 c2 c3 c4 c5 0 2 (by decide) (by decide)) (wd hw 77 rfl) (wd hw 78 rfl) (wd hw 4 rfl) (wd hw 79 rfl) pd_y_10 rfl (st := []) rfl rfl (G := []) rfl rfl ?_
          rintro _ _ ⟨rfl, rfl⟩
          obtain ⟨x408, hx409⟩ : ∃ x, own_cntL 0 2 0 [(own_cl c0), (own_cl c1)] = x := ⟨_, rfl⟩
          rw [show own_cntN 0 2 0 (own_cl c0) (own_cl c1) (own_cl c2) (own_cl c3) (own_cl c4) (own_cl c5) = x408 from hx409]
          show Goes _ _ _ _ _ _ _ _ _ _ _ _ _ _ _ _ _ _ [(b, oC6 c0 c1 c2 c3 c4 c5)] 0 0 (mkF m 66 #[.val (.ref b), .val (.int (2 : Int32)), .val (.int (1 : Int32)), .unset, .unset, .unset, .unset, .unset, .unset] [.int (Int32.ofNat x408)])
          have B407 : x408 ≤ 15 := hx409 ▸ Nat.le_trans (own_cntN_le _ _ _ _ _ _ _ _ _) (by decide)
          refine Goes.run X [(.istore_n 3, 1), (.aload_n 0, 1), (.iconst 0, 1), (.iload_n 1, 1), (.iconst 1, 1)] (L' := #[.val (.ref b), .val (.int (2 : Int32)), .val (.int (1 : Int32)), .val (.int (Int32.ofNat x408)), .unset, .unset, .unset, .unset, .unset]) (S' := [.int (1 : Int32), .int (2 : Int32), .int (0 : Int32), .ref b]) (pc' := 71) rfl ?_
          refine Goes.callS X 0 [0] [] (D_cnt1 l Z a0 h0 hw b c0 c1 c2 c3 c4 c5 0 2 (by decide) (by decide)) (wd hw 77 rfl) (wd hw 78 rfl) (wd hw 4 rfl) (wd hw 79 rfl) pd_y_10 rfl (st := []) rfl rfl (G := []) rfl rfl ?_
          rintro _ _ ⟨rfl, rfl⟩
          obtain ⟨x411, hx412⟩ : ∃ x, own_cntL 0 2 1 [(own_cl c0), (own_cl c1)] = x := ⟨_, rfl⟩
          rw [show own_cntN 0 2 1 (own_cl c0) (own_cl c1) (own_cl c2) (own_cl c3) (own_cl c4) (own_cl c5) = x411 from hx412]
          show Goes _ _ _ _ _ _ _ _ _ _ _ _ _ _ _ _ _ _ [(b, oC6 c0 c1 c2 c3 c4 c5)] 0 0 (mkF m 74 #[.val (.ref b), .val (.int (2 : Int32)), .val (.int (1 : Int32)), .val (.int (Int32.ofNat x408)), .unset, .unset, .unset, .unset, .unset] [.int (Int32.ofNat x411)])
          have B410 : x411 ≤ 15 := hx412 ▸ Nat.le_trans (own_cntN_le _ _ _ _ _ _ _ _ _) (by decide)
          refine Goes.run X [(.istore 4, 2), (.aload_n 0, 1), (.iload_n 2, 1), (.iload_n 1, 1), (.iconst 2, 1)] (L' := #[.val (.ref b), .val (.int (2 : Int32)), .val (.int (1 : Int32)), .val (.int (Int32.ofNat x408)), .val (.int (Int32.ofNat x411)), .unset, .unset, .unset, .unset]) (S' := [.int (2 : Int32), .int (2 : Int32), .int (1 : Int32), .ref b]) (pc' := 80) rfl ?_
          refine Goes.callS X 0 [0] [] (D_cnt2 l Z a0 h0 hw b c0 c1 c2 c3 c4 c5 1 2 (by decide) (by decide)) (wd hw 77 rfl) (wd hw 78 rfl) (wd hw 4 rfl) (wd hw 79 rfl) pd_y_10 rfl (st := []) rfl rfl (G := []) rfl rfl ?_
          rintro _ _ ⟨rfl, rfl⟩
          obtain ⟨x414, hx415⟩ : ∃ x, own_cntL 1 2 2 [(own_cl c0), (own_cl c1)] = x := ⟨_, rfl⟩
          rw [show own_cntN 1 2 2 (own_cl c0) (own_cl c1) (own_cl c2) (own_cl c3) (own_cl c4) (own_cl c5) = x414 from hx415]
          show Goes _ _ _ _ _ _ _ _ _ _ _ _ _ _ _ _ _ _ [(b, oC6 c0 c1 c2 c3 c4 c5)] 0 0 (mkF m 83 #[.val (.ref b), .val (.int (2 : Int32)), .val (.int (1 : Int32)), .val (.int (Int32.ofNat x408)), .val (.int (Int32.ofNat x411)), .unset, .unset, .unset, .unset] [.int (Int32.ofNat x414)])
          have B413 : x414 ≤ 15 := hx415 ▸ Nat.le_trans (own_cntN_le _ _ _ _ _ _ _ _ _) (by decide)
          refine Goes.run X [(.istore 5, 2), (.iload_n 3, 1), (.iconst 1, 1)] (L' := #[.val (.ref b), .val (.int (2 : Int32)), .val (.int (1 : Int32)), .val (.int (Int32.ofNat x408)), .val (.int (Int32.ofNat x411)), .val (.int (Int32.ofNat x414)), .unset, .unset, .unset]) (S' := [.int (1 : Int32), .int (Int32.ofNat x408)]) (pc' := 87) rfl ?_
          refine Goes.if2 X (pc' := 102) (o := 15) (cd := .gt) (fun q416 => ?_) (fun q416 => ?_)
          · have h417 := own_sT (own_s1 _ B407) q416
            refine Goes.runS X [(.iconst 0, 1)] (S' := [.int (0 : Int32)]) (pc' := 103) rfl ?_
            refine Goes.retI X (by simp) rfl ?_
            exact ⟨by rw [ha, own_refA]; (try simp only [hx396, hx409, hx412, hx415, Nat.reduceSub, Nat.reduceAdd]); (repeat' split) <;> first | rfl | (exfalso; omega), rfl⟩
          · have h418 := own_sF (own_s1 _ B407) q416
            refine Goes.runS X [(.iload 4, 2), (.iconst 1, 1)] (S' := [.int (1 : Int32), .int (Int32.ofNat x411)]) (pc' := 93) rfl ?_
            refine Goes.if2 X (pc' := 102) (o := 9) (cd := .gt) (fun q419 => ?_) (fun q419 => ?_)
            · have h420 := own_sT (own_s1 _ B410) q419
              refine Goes.runS X [(.iconst 0, 1)] (S' := [.int (0 : Int32)]) (pc' := 103) rfl ?_
              refine Goes.retI X (by simp) rfl ?_
              exact ⟨by rw [ha, own_refA]; (try simp only [hx396, hx409, hx412, hx415, Nat.reduceSub, Nat.reduceAdd]); (repeat' split) <;> first | rfl | (exfalso; omega), rfl⟩
            · have h421 := own_sF (own_s1 _ B410) q419
              refine Goes.runS X [(.iload 5, 2), (.iconst 1, 1)] (S' := [.int (1 : Int32), .int (Int32.ofNat x414)]) (pc' := 99) rfl ?_
              refine Goes.if2 X (pc' := 104) (o := 5) (cd := .le) (fun q422 => ?_) (fun q422 => ?_)
              · have h423 := own_sT (own_s1' _ B413) q422
                refine Goes.runS X [(.aload_n 0, 1), (.iconst 0, 1), (.iload_n 1, 1), (.iconst 0, 1)] (S' := [.int (0 : Int32), .int (2 : Int32), .int (0 : Int32), .ref b]) (pc' := 108) rfl ?_
                refine Goes.callS X 0 [0] [] (D_pos0 l Z a0 h0 hw b c0 c1 c2 c3 c4 c5 0 2 (by decide) (by decide)) (wd hw 118 rfl) (wd hw 119 rfl) (wd hw 4 rfl) (wd hw 120 rfl) pd_y_20 rfl (st := []) rfl rfl (G := []) rfl rfl ?_
                rintro _ _ ⟨rfl, rfl⟩
                obtain ⟨x425, hx426⟩ : ∃ x, own_posL 0 2 0 [(own_cl c0), (own_cl c1)] = x := ⟨_, rfl⟩
                rw [show own_posN 0 2 0 (own_cl c1) (own_cl c2) (own_cl c3) (own_cl c4) (own_cl c5) = x425 from hx426]
                show Goes _ _ _ _ _ _ _ _ _ _ _ _ _ _ _ _ _ _ [(b, oC6 c0 c1 c2 c3 c4 c5)] 0 0 (mkF m 111 #[.val (.ref b), .val (.int (2 : Int32)), .val (.int (1 : Int32)), .val (.int (Int32.ofNat x408)), .val (.int (Int32.ofNat x411)), .val (.int (Int32.ofNat x414)), .unset, .unset, .unset] [.int (Int32.ofNat x425)])
                have B424 : x425 ≤ 15 := hx426 ▸ own_posN_le _ _ _ _ _ _ _ _
                refine Goes.run X [(.istore 6, 2), (.aload_n 0, 1), (.iconst 0, 1), (.iload_n 1, 1), (.iconst 1, 1)] (L' := #[.val (.ref b), .val (.int (2 : Int32)), .val (.int (1 : Int32)), .val (.int (Int32.ofNat x408)), .val (.int (Int32.ofNat x411)), .val (.int (Int32.ofNat x414)), .val (.int (Int32.ofNat x425)), .unset, .unset]) (S' := [.int (1 : Int32), .int (2 : Int32), .int (0 : Int32), .ref b]) (pc' := 117) rfl ?_
                refine Goes.callS X 0 [0] [] (D_pos1 l Z a0 h0 hw b c0 c1 c2 c3 c4 c5 0 2 (by decide) (by decide)) (wd hw 118 rfl) (wd hw 119 rfl) (wd hw 4 rfl) (wd hw 120 rfl) pd_y_20 rfl (st := []) rfl rfl (G := []) rfl rfl ?_
                rintro _ _ ⟨rfl, rfl⟩
                obtain ⟨x428, hx429⟩ : ∃ x, own_posL 0 2 1 [(own_cl c0), (own_cl c1)] = x := ⟨_, rfl⟩
                rw [show own_posN 0 2 1 (own_cl c1) (own_cl c2) (own_cl c3) (own_cl c4) (own_cl c5) = x428 from hx429]
                show Goes _ _ _ _ _ _ _ _ _ _ _ _ _ _ _ _ _ _ [(b, oC6 c0 c1 c2 c3 c4 c5)] 0 0 (mkF m 120 #[.val (.ref b), .val (.int (2 : Int32)), .val (.int (1 : Int32)), .val (.int (Int32.ofNat x408)), .val (.int (Int32.ofNat x411)), .val (.int (Int32.ofNat x414)), .val (.int (Int32.ofNat x425)), .unset, .unset] [.int (Int32.ofNat x428)])
                have B427 : x428 ≤ 15 := hx429 ▸ own_posN_le _ _ _ _ _ _ _ _
                refine Goes.run X [(.istore 7, 2), (.aload_n 0, 1), (.iload_n 2, 1), (.iload_n 1, 1), (.iconst 2, 1)] (L' := #[.val (.ref b), .val (.int (2 : Int32)), .val (.int (1 : Int32)), .val (.int (Int32.ofNat x408)), .val (.int (Int32.ofNat x411)), .val (.int (Int32.ofNat x414)), .val (.int (Int32.ofNat x425)), .val (.int (Int32.ofNat x428)), .unset]) (S' := [.int (2 : Int32), .int (2 : Int32), .int (1 : Int32), .ref b]) (pc' := 126) rfl ?_
                refine Goes.callS X 0 [0] [] (D_pos2 l Z a0 h0 hw b c0 c1 c2 c3 c4 c5 1 2 (by decide) (by decide)) (wd hw 118 rfl) (wd hw 119 rfl) (wd hw 4 rfl) (wd hw 120 rfl) pd_y_20 rfl (st := []) rfl rfl (G := []) rfl rfl ?_
                rintro _ _ ⟨rfl, rfl⟩
                obtain ⟨x431, hx432⟩ : ∃ x, own_posL 1 2 2 [(own_cl c0), (own_cl c1)] = x := ⟨_, rfl⟩
                rw [show own_posN 1 2 2 (own_cl c1) (own_cl c2) (own_cl c3) (own_cl c4) (own_cl c5) = x431 from hx432]
                show Goes _ _ _ _ _ _ _ _ _ _ _ _ _ _ _ _ _ _ [(b, oC6 c0 c1 c2 c3 c4 c5)] 0 0 (mkF m 129 #[.val (.ref b), .val (.int (2 : Int32)), .val (.int (1 : Int32)), .val (.int (Int32.ofNat x408)), .val (.int (Int32.ofNat x411)), .val (.int (Int32.ofNat x414)), .val (.int (Int32.ofNat x425)), .val (.int (Int32.ofNat x428)), .unset] [.int (Int32.ofNat x431)])
                have B430 : x431 ≤ 15 := hx432 ▸ own_posN_le _ _ _ _ _ _ _ _
                refine Goes.run X [(.istore 8, 2), (.iload 5, 2), (.iconst 1, 1)] (L' := #[.val (.ref b), .val (.int (2 : Int32)), .val (.int (1 : Int32)), .val (.int (Int32.ofNat x408)), .val (.int (Int32.ofNat x411)), .val (.int (Int32.ofNat x414)), .val (.int (Int32.ofNat x425)), .val (.int (Int32.ofNat x428)), .val (.int (Int32.ofNat x431))]) (S' := [.int (1 : Int32), .int (Int32.ofNat x414)]) (pc' := 134) rfl ?_
                have J3 : ∀ (g1 : ¬ (x414 = 1 ∧ (x411 = 0 ∨ ¬ x431 = x428 + 1))) (g2 : ¬ (x408 = 1 ∧ x411 = 1 ∧ x428 < x425)), Goes p l e ({ frames := 4, cells := 0, slots := 0, locals := 58 } : Room) s m args below meth c Z a0 h0 h ([(b, oC6 c0 c1 c2 c3 c4 c5)].map (·.1)) ({ frames := 4, cells := 0, slots := 0, locals := 58 } : Room).cells ({ frames := 4, cells := 0, slots := 0, locals := 58 } : Room).slots (fun v F => v = some (.int (Int32.ofNat (own_refN 2 [(own_cl c0), (own_cl c1)]))) ∧ F = [(b, oC6 c0 c1 c2 c3 c4 c5)]) [(b, oC6 c0 c1 c2 c3 c4 c5)] 0 0 (mkF m 173 #[.val (.ref b), .val (.int (2 : Int32)), .val (.int (1 : Int32)), .val (.int (Int32.ofNat x408)), .val (.int (Int32.ofNat x411)), .val (.int (Int32.ofNat x414)), .val (.int (Int32.ofNat x425)), .val (.int (Int32.ofNat x428)), .val (.int (Int32.ofNat x431))] []) := by
                  intro g1 g2
                  refine Goes.runS X [(.iload_n 3, 1), (.iconst 1, 1)] (S' := [.int (1 : Int32), .int (Int32.ofNat x408)]) (pc' := 175) rfl ?_
                  refine Goes.if2 X (pc' := 200) (o := 25) (cd := .ne) (fun q433 => ?_) (fun q433 => ?_)
                  · have h434 := own_sT (own_s2 _ B407) q433
                    refine Goes.runS X [(.iconst 1, 1)] (S' := [.int (1 : Int32)]) (pc' := 201) rfl ?_
                    refine Goes.retI X (by simp) rfl ?_
                    exact ⟨by rw [ha, own_refA]; (try simp only [hx396, hx409, hx412, hx415, hx426, hx429, hx432, Nat.reduceSub, Nat.reduceAdd]); (repeat' split) <;> first | rfl | (exfalso; omega), rfl⟩
                  · have h435 := own_sF (own_s2 _ B407) q433
                    have h435 := Classical.not_not.mp h435
                    refine Goes.runS X [(.iload 6, 2), (.iconst 1, 1), (.iadd, 1), (.iload_n 1, 1)] (S' := [.int (2 : Int32), .int ((Int32.ofNat x425) + (1 : Int32))]) (pc' := 183) rfl ?_
                    refine Goes.if2 X (pc' := 198) (o := 15) (cd := .ge) (fun q436 => ?_) (fun q436 => ?_)
                    · have h437 := own_sT (own_s5 2 (by decide) _ B424) q436
                      refine Goes.runS X [(.iconst 0, 1)] (S' := [.int (0 : Int32)]) (pc' := 199) rfl ?_
                      refine Goes.retI X (by simp) rfl ?_
                      exact ⟨by rw [ha, own_refA]; (try simp only [hx396, hx409, hx412, hx415, hx426, hx429, hx432, Nat.reduceSub, Nat.reduceAdd]); (repeat' split) <;> first | rfl | (exfalso; omega), rfl⟩
                    · have h438 := own_sF (own_s5 2 (by decide) _ B424) q436
                      have h438 := Classical.not_not.mp h438
                      refine Goes.runS X [(.aload_n 0, 1), (.iload 6, 2), (.iconst 1, 1), (.iadd, 1)] (S' := [.int ((Int32.ofNat x425) + (1 : Int32)), .ref b]) (pc' := 191) rfl ?_
                      have z439 : x425 = 0 := by omega
                      rcases z439 with z439
                      · rw [z439]
                        show Goes _ _ _ _ _ _ _ _ _ _ _ _ _ _ _ _ _ _ [(b, oC6 c0 c1 c2 c3 c4 c5)] 0 0 (mkF m 191 #[.val (.ref b), .val (.int (2 : Int32)), .val (.int (1 : Int32)), .val (.int (Int32.ofNat x408)), .val (.int (Int32.ofNat x411)), .val (.int (Int32.ofNat x414)), .val (.int (Int32.ofNat 0)), .val (.int (Int32.ofNat x428)), .val (.int (Int32.ofNat x431))] [.int ((Int32.ofNat 0) + (1 : Int32)), .ref b])
                        refine Goes.caload X 0 1 rfl (by decide) (by decide) rfl ?_
                        refine Goes.callS X 0 [] [0] (D_dg l Z a0 h0 hw c1) (wd hw 86 rfl) (wd hw 87 rfl) (wd hw 4 rfl) (wd hw 88 rfl) pd_y_13 rfl (st := []) rfl rfl (G := [(b, oC6 c0 c1 c2 c3 c4 c5)]) rfl rfl ?_
                        rintro _ _ ⟨rfl, rfl⟩
                        refine Goes.if1 X (pc' := 200) (o := 5) (cd := .ne) (fun q440 => ?_) (fun q440 => ?_)
                        · have h441 : ¬ own_dig c1 = 0 := by simpa [ifCond.holds] using q440
                          have g442 : own_g [(own_cl c0), (own_cl c1)] 1 = 4 := by show own_cl c1 = 4; rw [own_cl4]; simpa using h441
                          refine Goes.runS X [(.iconst 1, 1)] (S' := [.int (1 : Int32)]) (pc' := 201) rfl ?_
                          refine Goes.retI X (by simp) rfl ?_
                          exact ⟨by rw [ha, own_refA]; (try simp only [hx396, hx409, hx412, hx415, hx426, hx429, hx432, z439, Nat.reduceSub, Nat.reduceAdd]); (repeat' split) <;> first | rfl | (exfalso; omega), rfl⟩
                        · have h443 : own_dig c1 = 0 := by simpa [ifCond.holds] using q440
                          have g444 : ¬ own_g [(own_cl c0), (own_cl c1)] 1 = 4 := by show ¬ own_cl c1 = 4; rw [own_cl4]; simpa using h443
                          refine Goes.runS X [(.iconst 0, 1)] (S' := [.int (0 : Int32)]) (pc' := 199) rfl ?_
                          refine Goes.retI X (by simp) rfl ?_
                          exact ⟨by rw [ha, own_refA]; (try simp only [hx396, hx409, hx412, hx415, hx426, hx429, hx432, z439, Nat.reduceSub, Nat.reduceAdd]); (repeat' split) <;> first | rfl | (exfalso; omega), rfl⟩
                have J2 : ∀ (g1 : ¬ (x414 = 1 ∧ (x411 = 0 ∨ ¬ x431 = x428 + 1))), Goes p l e ({ frames := 4, cells := 0, slots := 0, locals := 58 } : Room) s m args below meth c Z a0 h0 h ([(b, oC6 c0 c1 c2 c3 c4 c5)].map (·.1)) ({ frames := 4, cells := 0, slots := 0, locals := 58 } : Room).cells ({ frames := 4, cells := 0, slots := 0, locals := 58 } : Room).slots (fun v F => v = some (.int (Int32.ofNat (own_refN 2 [(own_cl c0), (own_cl c1)]))) ∧ F = [(b, oC6 c0 c1 c2 c3 c4 c5)]) [(b, oC6 c0 c1 c2 c3 c4 c5)] 0 0 (mkF m 153 #[.val (.ref b), .val (.int (2 : Int32)), .val (.int (1 : Int32)), .val (.int (Int32.ofNat x408)), .val (.int (Int32.ofNat x411)), .val (.int (Int32.ofNat x414)), .val (.int (Int32.ofNat x425)), .val (.int (Int32.ofNat x428)), .val (.int (Int32.ofNat x431))] []) := by
                  intro g1
                  refine Goes.runS X [(.iload_n 3, 1), (.iconst 1, 1)] (S' := [.int (1 : Int32), .int (Int32.ofNat x408)]) (pc' := 155) rfl ?_
                  refine Goes.if2 X (pc' := 173) (o := 18) (cd := .ne) (fun q445 => ?_) (fun q445 => ?_)
                  · have h446 := own_sT (own_s2 _ B407) q445
                    exact J3 g1 (fun z => h446 z.1)
                  · have h447 := own_sF (own_s2 _ B407) q445
                    have h447 := Classical.not_not.mp h447
                    refine Goes.runS X [(.iload 4, 2), (.iconst 1, 1)] (S' := [.int (1 : Int32), .int (Int32.ofNat x411)]) (pc' := 161) rfl ?_
                    refine Goes.if2 X (pc' := 173) (o := 12) (cd := .ne) (fun q448 => ?_) (fun q448 => ?_)
                    · have h449 := own_sT (own_s2 _ B410) q448
                      exact J3 g1 (fun z => h449 z.2.1)
                    · have h450 := own_sF (own_s2 _ B410) q448
                      have h450 := Classical.not_not.mp h450
                      refine Goes.runS X [(.iload 6, 2), (.iload 7, 2)] (S' := [.int (Int32.ofNat x428), .int (Int32.ofNat x425)]) (pc' := 168) rfl ?_
                      refine Goes.if2 X (pc' := 173) (o := 5) (cd := .le) (fun q451 => ?_) (fun q451 => ?_)
                      · have h452 := own_sT (own_s4 _ B424 _ B427) q451
                        exact J3 g1 (fun z => h452 z.2.2)
                      · have h453 := own_sF (own_s4 _ B424 _ B427) q451
                        have h453 := Classical.not_not.mp h453
                        refine Goes.runS X [(.iconst 0, 1)] (S' := [.int (0 : Int32)]) (pc' := 172) rfl ?_
                        refine Goes.retI X (by simp) rfl ?_
                        exact ⟨by rw [ha, own_refA]; (try simp only [hx396, hx409, hx412, hx415, hx426, hx429, hx432, Nat.reduceSub, Nat.reduceAdd]); (repeat' split) <;> first | rfl | (exfalso; omega), rfl⟩
                refine Goes.if2 X (pc' := 153) (o := 19) (cd := .ne) (fun q454 => ?_) (fun q454 => ?_)
                · have h455 := own_sT (own_s2 _ B413) q454
                  exact J2 (fun z => h455 z.1)
                · have h456 := own_sF (own_s2 _ B413) q454
                  have h456 := Classical.not_not.mp h456
                  refine Goes.runS X [(.iload 4, 2)] (S' := [.int (Int32.ofNat x411)]) (pc' := 139) rfl ?_
                  refine Goes.if1 X (pc' := 151) (o := 12) (cd := .eq) (fun q457 => ?_) (fun q457 => ?_)
                  · have h458 := own_sT (own_s0 _ B410) q457
                    refine Goes.runS X [(.iconst 0, 1)] (S' := [.int (0 : Int32)]) (pc' := 152) rfl ?_
                    refine Goes.retI X (by simp) rfl ?_
                    exact ⟨by rw [ha, own_refA]; (try simp only [hx396, hx409, hx412, hx415, hx426, hx429, hx432, Nat.reduceSub, Nat.reduceAdd]); (repeat' split) <;> first | rfl | (exfalso; omega), rfl⟩
                  · have h459 := own_sF (own_s0 _ B410) q457
                    refine Goes.runS X [(.iload 8, 2), (.iload 7, 2), (.iconst 1, 1), (.iadd, 1)] (S' := [.int ((Int32.ofNat x428) + (1 : Int32)), .int (Int32.ofNat x431)]) (pc' := 148) rfl ?_
                    refine Goes.if2 X (pc' := 153) (o := 5) (cd := .eq) (fun q460 => ?_) (fun q460 => ?_)
                    · have h461 := own_sT (own_s3 _ B430 _ B427) q460
                      exact J2 (fun z => z.2.elim h459 (fun y => y h461))
                    · have h462 := own_sF (own_s3 _ B430 _ B427) q460
                      refine Goes.runS X [(.iconst 0, 1)] (S' := [.int (0 : Int32)]) (pc' := 152) rfl ?_
                      refine Goes.retI X (by simp) rfl ?_
                      exact ⟨by rw [ha, own_refA]; (try simp only [hx396, hx409, hx412, hx415, hx426, hx429, hx432, Nat.reduceSub, Nat.reduceAdd]); (repeat' split) <;> first | rfl | (exfalso; omega), rfl⟩
              · have h463 := own_sF (own_s1' _ B413) q422
                have h463 := Classical.not_not.mp h463
                refine Goes.runS X [(.iconst 0, 1)] (S' := [.int (0 : Int32)]) (pc' := 103) rfl ?_
                refine Goes.retI X (by simp) rfl ?_
                exact ⟨by rw [ha, own_refA]; (try simp only [hx396, hx409, hx412, hx415, Nat.reduceSub, Nat.reduceAdd]); (repeat' split) <;> first | rfl | (exfalso; omega), rfl⟩
        · have h464 : own_dig c1 = 0 := by simpa [ifCond.holds] using q404
          have g465 : ¬ own_g [(own_cl c0), (own_cl c1)] 1 = 4 := by show ¬ own_cl c1 = 4; rw [own_cl4]; simpa using h464
          refine Goes.runS X [(.iconst 0, 1)] (S' := [.int (0 : Int32)]) (pc' := 58) rfl ?_
          refine Goes.retI X (by simp) rfl ?_
          exact ⟨by rw [ha, own_refA]; (try simp only [hx396, Nat.reduceSub, Nat.reduceAdd]); (repeat' split) <;> first | rfl | (exfalso; omega), rfl⟩
    · have h466 := own_sF (own_s0 _ B394) q397
      refine Goes.runS X [(.iconst 0, 1)] (S' := [.int (0 : Int32)]) (pc' := 36) rfl ?_
      refine Goes.retI X (by simp) rfl ?_
      exact ⟨by rw [ha, own_refA_x (by rw [hx396]; omega)] <;> rfl, rfl⟩
set_option maxRecDepth 65536 in
set_option maxHeartbeats 40000000 in
theorem D_ref3 (l : Launch) (Z : State) (a0 : Array Value) (h0 : Heap) (hw : ∀ d ∈ tables_1, d.before a0 Z = true) (b : Addr) (c0 c1 c2 c3 c4 c5 : Int32) : Does l Z a0 h0 y_5 method_9_code 9 (some .boolean) ({ frames := 4, cells := 0, slots := 0, locals := 58 } : Room) #[.ref b, .int 3] [(b, oC6 c0 c1 c2 c3 c4 c5)] (fun v F => v = some (.int (Int32.ofNat (own_refN 3 [(own_cl c0), (own_cl c1), (own_cl c2)]))) ∧ F = [(b, oC6 c0 c1 c2 c3 c4 c5)]) := by
  refine Does.mk #[.val (.ref b), .val (.int (3 : Int32)), .unset, .unset, .unset, .unset, .unset, .unset, .unset] (plainFor_of_name (by decide +kernel)) (fun m => by first | (simp [entryFrame, mkF, argsToLocals, Value.category]; done) | rfl) ?_
  intro p e s m args below meth c h X
  show Goes _ _ _ _ _ _ _ _ _ _ _ _ _ _ _ _ _ _ [(b, oC6 c0 c1 c2 c3 c4 c5)] 0 0 (mkF m 0 #[.val (.ref b), .val (.int (3 : Int32)), .unset, .unset, .unset, .unset, .unset, .unset, .unset] [])
  refine Goes.runS X [(.iload_n 1, 1)] (S' := [.int (3 : Int32)]) (pc' := 1) rfl ?_
  refine Goes.if1 X (pc' := 16) (o := 15) (cd := .le) (fun q => absurd q (by decide)) (fun _ => ?_)
  refine Goes.runS X [(.aload_n 0, 1), (.iconst 0, 1)] (S' := [.int (0 : Int32), .ref b]) (pc' := 6) rfl ?_
  refine Goes.caload X 0 0 rfl (by decide) (by decide) rfl ?_
  refine Goes.runS X [(.bipush 45, 2)] (S' := [.int (45 : Int32), .int c0]) (pc' := 9) rfl ?_
  refine Goes.if2 X (pc' := 16) (o := 7) (cd := .ne) (fun q467 => ?_) (fun q467 => ?_)
  · have h468 : ¬ c0 = 45 := by simpa [if_icmp.holds] using q467
    have ha : own_refN 3 [(own_cl c0), (own_cl c1), (own_cl c2)] = own_refA 3 0 [(own_cl c0), (own_cl c1), (own_cl c2)] := congrArg (fun z => own_refA 3 z [(own_cl c0), (own_cl c1), (own_cl c2)]) (if_neg fun z => h468 ((own_cl0 _).mp z.2))
    refine Goes.runS X [(.iconst 0, 1)] (S' := [.int (0 : Int32)]) (pc' := 17) rfl ?_
    refine Goes.run X [(.istore_n 2, 1), (.iload_n 1, 1), (.iload_n 2, 1)] (L' := #[.val (.ref b), .val (.int (3 : Int32)), .val (.int (0 : Int32)), .unset, .unset, .unset, .unset, .unset, .unset]) (S' := [.int (0 : Int32), .int (3 : Int32)]) (pc' := 20) rfl ?_
    refine Goes.if2 X (pc' := 25) (o := 5) (cd := .gt) (fun _ => ?_) (fun q => absurd q (by decide))
    refine Goes.runS X [(.aload_n 0, 1), (.iconst 0, 1), (.iload_n 1, 1), (.iconst 3, 1)] (S' := [.int (3 : Int32), .int (3 : Int32), .int (0 : Int32), .ref b]) (pc' := 29) rfl ?_
    refine Goes.callS X 0 [0] [] (D_cnt3 l Z a0 h0 hw b c0 c1 c2 c3 c4 c5 0 3 (by decide) (by decide)) (wd hw 77 rfl) (wd hw 78 rfl) (wd hw 4 rfl) (wd hw 79 rfl) pd_y_10 rfl (st := []) rfl rfl (G := []) rfl rfl ?_
    rintro _ _ ⟨rfl, rfl⟩
    obtain ⟨x470, hx471⟩ : ∃ x, own_cntL 0 3 3 [(own_cl c0), (own_cl c1), (own_cl c2)] = x := ⟨_, rfl⟩
    rw [show own_cntN 0 3 3 (own_cl c0) (own_cl c1) (own_cl c2) (own_cl c3) (own_cl c4) (own_cl c5) = x470 from hx471]
    show Goes _ _ _ _ _ _ _ _ _ _ _ _ _ _ _ _ _ _ [(b, oC6 c0 c1 c2 c3 c4 c5)] 0 0 (mkF m 32 #[.val (.ref b), .val (.int (3 : Int32)), .val (.int (0 : Int32)), .unset, .unset, .unset, .unset, .unset, .unset] [.int (Int32.ofNat x470)])
    have B469 : x470 ≤ 15 := hx471 ▸ Nat.le_trans (own_cntN_le _ _ _ _ _ _ _ _ _) (by decide)
    refine Goes.if1 X (pc' := 37) (o := 5) (cd := .eq) (fun q472 => ?_) (fun q472 => ?_)
    · have h473 := own_sT (own_s0 _ B469) q472
      refine Goes.runS X [(.aload_n 0, 1), (.iload_n 2, 1)] (S' := [.int (0 : Int32), .ref b]) (pc' := 39) rfl ?_
      refine Goes.caload X 0 0 rfl (by decide) (by decide) rfl ?_
      refine Goes.callS X 0 [] [0] (D_dg l Z a0 h0 hw c0) (wd hw 86 rfl) (wd hw 87 rfl) (wd hw 4 rfl) (wd hw 88 rfl) pd_y_13 rfl (st := []) rfl rfl (G := [(b, oC6 c0 c1 c2 c3 c4 c5)]) rfl rfl ?_
      rintro _ _ ⟨rfl, rfl⟩
      refine Goes.if1 X (pc' := 57) (o := 14) (cd := .eq) (fun q474 => ?_) (fun q474 => ?_)
      · have h475 : own_dig c0 = 0 := by simpa [ifCond.holds] using q474
        have g476 : ¬ own_g [(own_cl c0), (own_cl c1), (own_cl c2)] 0 = 4 := by show ¬ own_cl c0 = 4; rw [own_cl4]; simpa using h475
        refine Goes.runS X [(.iconst 0, 1)] (S' := [.int (0 : Int32)]) (pc' := 58) rfl ?_
        refine Goes.retI X (by simp) rfl ?_
        exact ⟨by rw [ha, own_refA]; (try simp only [hx471, Nat.reduceSub, Nat.reduceAdd]); (repeat' split) <;> first | rfl | (exfalso; omega), rfl⟩
      · have h477 : ¬ own_dig c0 = 0 := by simpa [ifCond.holds] using q474
        have g478 : own_g [(own_cl c0), (own_cl c1), (own_cl c2)] 0 = 4 := by show own_cl c0 = 4; rw [own_cl4]; simpa using h477
        refine Goes.runS X [(.aload_n 0, 1), (.iload_n 1, 1), (.iconst 1, 1), (.isub, 1)] (S' := [.int (2 : Int32), .ref b]) (pc' := 50) rfl ?_
        refine Goes.caload X 0 2 rfl (by decide) (by decide) rfl ?_
        refine Goes.callS X 0 [] [0] (D_dg l Z a0 h0 hw c2) (wd hw 86 rfl) (wd hw 87 rfl) (wd hw 4 rfl) (wd hw 88 rfl) pd_y_13 rfl (st := []) rfl rfl (G := [(b, oC6 c0 c1 c2 c3 c4 c5)]) rfl rfl ?_
        rintro _ _ ⟨rfl, rfl⟩
        refine Goes.if1 X (pc' := 59) (o := 5) (cd := .ne) (fun q479 => ?_) (fun q479 => ?_)
        · have h480 : ¬ own_dig c2 = 0 := by simpa [ifCond.holds] using q479
          have g481 : own_g [(own_cl c0), (own_cl c1), (own_cl c2)] 2 = 4 := by show own_cl c2 = 4; rw [own_cl4]; simpa using h480
          refine Goes.runS X [(.aload_n 0, 1), (.iconst 0, 1), (.iload_n 1, 1), (.iconst 0, 1)] (S' := [.int (0 : Int32), .int (3 : Int32), .int (0 : Int32), .ref b]) (pc' := 63) rfl ?_
          refine Goes.callS X 0 [0] [] (D_cnt0 l Z a0 h0 hw b c0 c1 c2 c3 c4 c5 0 3 (by decide) (by decide)) (wd hw 77 rfl) (wd hw 78 rfl) (wd hw 4 rfl) (wd hw 79 rfl) pd_y_10 rfl (st := []) rfl rfl (G := []) rfl rfl ?_
          rintro _ _ ⟨rfl, rfl⟩
          obtain ⟨x483, hx484⟩ : ∃ x, own_cntL 0 3 0 [(own_cl c0), (own_cl c1), (own_cl c2)] = x := ⟨_, rfl⟩
          rw [show own_cntN 0 3 0 (own_cl c0) (own_cl c1) (own_cl c2) (own_cl c3) (own_cl c4) (own_cl c5) = x483 from hx484]
          show Goes _ _ _ _ _ _ _ _ _ _ _ _ _ _ _ _ _ _ [(b, oC6 c0 c1 c2 c3 c4 c5)] 0 0 (mkF m 66 #[.val (.ref b), .val (.int (3 : Int32)), .val (.int (0 : Int32)), .unset, .unset, .unset, .unset, .unset, .unset] [.int (Int32.ofNat x483)])
          have B482 : x483 ≤ 15 := hx484 ▸ Nat.le_trans (own_cntN_le _ _ _ _ _ _ _ _ _) (by decide)
          refine Goes.run X [(.istore_n 3, 1), (.aload_n 0, 1), (.iconst 0, 1), (.iload_n 1, 1), (.iconst 1, 1)] (L' := #[.val (.ref b), .val (.int (3 : Int32)), .val (.int (0 : Int32)), .val (.int (Int32.ofNat x483)), .unset, .unset, .unset, .unset, .unset]) (S' := [.int (1 : Int32), .int (3 : Int32), .int (0 : Int32), .ref b]) (pc' := 71) rfl ?_
          refine Goes.callS X 0 [0] [] (D_cnt1 l Z a0 h0 hw b c0 c1 c2 c3 c4 c5 0 3 (by decide) (by decide)) (wd hw 77 rfl) (wd hw 78 rfl) (wd hw 4 rfl) (wd hw 79 rfl) pd_y_10 rfl (st := []) rfl rfl (G := []) rfl rfl ?_
          rintro _ _ ⟨rfl, rfl⟩
          obtain ⟨x486, hx487⟩ : ∃ x, own_cntL 0 3 1 [(own_cl c0), (own_cl c1), (own_cl c2)] = x := ⟨_, rfl⟩
          rw [show own_cntN 0 3 1 (own_cl c0) (own_cl c1) (own_cl c2) (own_cl c3) (own_cl c4) (own_cl c5) = x486 from hx487]
          show Goes _ _ _ _ _ _ _ _ _ _ _ _ _ _ _ _ _ _ [(b, oC6 c0 c1 c2 c3 c4 c5)] 0 0 (mkF m 74 #[.val (.ref b), .val (.int (3 : Int32)), .val (.int (0 : Int32)), .val (.int (Int32.ofNat x483)), .unset, .unset, .unset, .unset, .unset] [.int (Int32.ofNat x486)])
          have B485 : x486 ≤ 15 := hx487 ▸ Nat.le_trans (own_cntN_le _ _ _ _ _ _ _ _ _) (by decide)
          refine Goes.run X [(.istore 4, 2), (.aload_n 0, 1), (.iload_n 2, 1), (.iload_n 1, 1), (.iconst 2, 1)] (L' := #[.val (.ref b), .val (.int (3 : Int32)), .val (.int (0 : Int32)), .val (.int (Int32.ofNat x483)), .val (.int (Int32.ofNat x486)), .unset, .unset, .unset, .unset]) (S' := [.int (2 : Int32), .int (3 : Int32), .int (0 : Int32), .ref b]) (pc' := 80) rfl ?_
          refine Goes.callS X 0 [0] [] (D_cnt2 l Z a0 h0 hw b c0 c1 c2 c3 c4 c5 0 3 (by decide) (by decide)) (wd hw 77 rfl) (wd hw 78 rfl) (wd hw 4 rfl) (wd hw 79 rfl) pd_y_10 rfl (st := []) rfl rfl (G := []) rfl rfl ?_
          rintro _ _ ⟨rfl, rfl⟩
          obtain ⟨x489, hx490⟩ : ∃ x, own_cntL 0 3 2 [(own_cl c0), (own_cl c1), (own_cl c2)] = x := ⟨_, rfl⟩
          rw [show own_cntN 0 3 2 (own_cl c0) (own_cl c1) (own_cl c2) (own_cl c3) (own_cl c4) (own_cl c5) = x489 from hx490]
          show Goes _ _ _ _ _ _ _ _ _ _ _ _ _ _ _ _ _ _ [(b, oC6 c0 c1 c2 c3 c4 c5)] 0 0 (mkF m 83 #[.val (.ref b), .val (.int (3 : Int32)), .val (.int (0 : Int32)), .val (.int (Int32.ofNat x483)), .val (.int (Int32.ofNat x486)), .unset, .unset, .unset, .unset] [.int (Int32.ofNat x489)])
          have B488 : x489 ≤ 15 := hx490 ▸ Nat.le_trans (own_cntN_le _ _ _ _ _ _ _ _ _) (by decide)
          refine Goes.run X [(.istore 5, 2), (.iload_n 3, 1), (.iconst 1, 1)] (L' := #[.val (.ref b), .val (.int (3 : Int32)), .val (.int (0 : Int32)), .val (.int (Int32.ofNat x483)), .val (.int (Int32.ofNat x486)), .val (.int (Int32.ofNat x489)), .unset, .unset, .unset]) (S' := [.int (1 : Int32), .int (Int32.ofNat x483)]) (pc' := 87) rfl ?_
          refine Goes.if2 X (pc' := 102) (o := 15) (cd := .gt) (fun q491 => ?_) (fun q491 => ?_)
          · have h492 := own_sT (own_s1 _ B482) q491
            refine Goes.runS X [(.iconst 0, 1)] (S' := [.int (0 : Int32)]) (pc' := 103) rfl ?_
            refine Goes.retI X (by simp) rfl ?_
            exact ⟨by rw [ha, own_refA]; (try simp only [hx471, hx484, hx487, hx490, Nat.reduceSub, Nat.reduceAdd]); (repeat' split) <;> first | rfl | (exfalso; omega), rfl⟩
          · have h493 := own_sF (own_s1 _ B482) q491
            refine Goes.runS X [(.iload 4, 2), (.iconst 1, 1)] (S' := [.int (1 : Int32), .int (Int32.ofNat x486)]) (pc' := 93) rfl ?_
            refine Goes.if2 X (pc' := 102) (o := 9) (cd := .gt) (fun q494 => ?_) (fun q494 => ?_)
            · have h495 := own_sT (own_s1 _ B485) q494
              refine Goes.runS X [(.iconst 0, 1)] (S' := [.int (0 : Int32)]) (pc' := 103) rfl ?_
              refine Goes.retI X (by simp) rfl ?_
              exact ⟨by rw [ha, own_refA]; (try simp only [hx471, hx484, hx487, hx490, Nat.reduceSub, Nat.reduceAdd]); (repeat' split) <;> first | rfl | (exfalso; omega), rfl⟩
            · have h496 := own_sF (own_s1 _ B485) q494
              refine Goes.runS X [(.iload 5, 2), (.iconst 1, 1)] (S' := [.int (1 : Int32), .int (Int32.ofNat x489)]) (pc' := 99) rfl ?_
              refine Goes.if2 X (pc' := 104) (o := 5) (cd := .le) (fun q497 => ?_) (fun q497 => ?_)
              · have h498 := own_sT (own_s1' _ B488) q497
                refine Goes.runS X [(.aload_n 0, 1), (.iconst 0, 1), (.iload_n 1, 1), (.iconst 0, 1)] (S' := [.int (0 : Int32), .int (3 : Int32), .int (0 : Int32), .ref b]) (pc' := 108) rfl ?_
                refine Goes.callS X 0 [0] [] (D_pos0 l Z a0 h0 hw b c0 c1 c2 c3 c4 c5 0 3 (by decide) (by decide)) (wd hw 118 rfl) (wd hw 119 rfl) (wd hw 4 rfl) (wd hw 120 rfl) pd_y_20 rfl (st := []) rfl rfl (G := []) rfl rfl ?_
                rintro _ _ ⟨rfl, rfl⟩
                obtain ⟨x500, hx501⟩ : ∃ x, own_posL 0 3 0 [(own_cl c0), (own_cl c1), (own_cl c2)] = x := ⟨_, rfl⟩
                rw [show own_posN 0 3 0 (own_cl c1) (own_cl c2) (own_cl c3) (own_cl c4) (own_cl c5) = x500 from hx501]
                show Goes _ _ _ _ _ _ _ _ _ _ _ _ _ _ _ _ _ _ [(b, oC6 c0 c1 c2 c3 c4 c5)] 0 0 (mkF m 111 #[.val (.ref b), .val (.int (3 : Int32)), .val (.int (0 : Int32)), .val (.int (Int32.ofNat x483)), .val (.int (Int32.ofNat x486)), .val (.int (Int32.ofNat x489)), .unset, .unset, .unset] [.int (Int32.ofNat x500)])
                have B499 : x500 ≤ 15 := hx501 ▸ own_posN_le _ _ _ _ _ _ _ _
                refine Goes.run X [(.istore 6, 2), (.aload_n 0, 1), (.iconst 0, 1), (.iload_n 1, 1), (.iconst 1, 1)] (L' := #[.val (.ref b), .val (.int (3 : Int32)), .val (.int (0 : Int32)), .val (.int (Int32.ofNat x483)), .val (.int (Int32.ofNat x486)), .val (.int (Int32.ofNat x489)), .val (.int (Int32.ofNat x500)), .unset, .unset]) (S' := [.int (1 : Int32), .int (3 : Int32), .int (0 : Int32), .ref b]) (pc' := 117) rfl ?_
                refine Goes.callS X 0 [0] [] (D_pos1 l Z a0 h0 hw b c0 c1 c2 c3 c4 c5 0 3 (by decide) (by decide)) (wd hw 118 rfl) (wd hw 119 rfl) (wd hw 4 rfl) (wd hw 120 rfl) pd_y_20 rfl (st := []) rfl rfl (G := []) rfl rfl ?_
                rintro _ _ ⟨rfl, rfl⟩
                obtain ⟨x503, hx504⟩ : ∃ x, own_posL 0 3 1 [(own_cl c0), (own_cl c1), (own_cl c2)] = x := ⟨_, rfl⟩
                rw [show own_posN 0 3 1 (own_cl c1) (own_cl c2) (own_cl c3) (own_cl c4) (own_cl c5) = x503 from hx504]
                show Goes _ _ _ _ _ _ _ _ _ _ _ _ _ _ _ _ _ _ [(b, oC6 c0 c1 c2 c3 c4 c5)] 0 0 (mkF m 120 #[.val (.ref b), .val (.int (3 : Int32)), .val (.int (0 : Int32)), .val (.int (Int32.ofNat x483)), .val (.int (Int32.ofNat x486)), .val (.int (Int32.ofNat x489)), .val (.int (Int32.ofNat x500)), .unset, .unset] [.int (Int32.ofNat x503)])
                have B502 : x503 ≤ 15 := hx504 ▸ own_posN_le _ _ _ _ _ _ _ _
                refine Goes.run X [(.istore 7, 2), (.aload_n 0, 1), (.iload_n 2, 1), (.iload_n 1, 1), (.iconst 2, 1)] (L' := #[.val (.ref b), .val (.int (3 : Int32)), .val (.int (0 : Int32)), .val (.int (Int32.ofNat x483)), .val (.int (Int32.ofNat x486)), .val (.int (Int32.ofNat x489)), .val (.int (Int32.ofNat x500)), .val (.int (Int32.ofNat x503)), .unset]) (S' := [.int (2 : Int32), .int (3 : Int32), .int (0 : Int32), .ref b]) (pc' := 126) rfl ?_
                refine Goes.callS X 0 [0] [] (D_pos2 l Z a0 h0 hw b c0 c1 c2 c3 c4 c5 0 3 (by decide) (by decide)) (wd hw 118 rfl) (wd hw 119 rfl) (wd hw 4 rfl) (wd hw 120 rfl) pd_y_20 rfl (st := []) rfl rfl (G := []) rfl rfl ?_
                rintro _ _ ⟨rfl, rfl⟩
                obtain ⟨x506, hx507⟩ : ∃ x, own_posL 0 3 2 [(own_cl c0), (own_cl c1), (own_cl c2)] = x := ⟨_, rfl⟩
                rw [show own_posN 0 3 2 (own_cl c1) (own_cl c2) (own_cl c3) (own_cl c4) (own_cl c5) = x506 from hx507]
                show Goes _ _ _ _ _ _ _ _ _ _ _ _ _ _ _ _ _ _ [(b, oC6 c0 c1 c2 c3 c4 c5)] 0 0 (mkF m 129 #[.val (.ref b), .val (.int (3 : Int32)), .val (.int (0 : Int32)), .val (.int (Int32.ofNat x483)), .val (.int (Int32.ofNat x486)), .val (.int (Int32.ofNat x489)), .val (.int (Int32.ofNat x500)), .val (.int (Int32.ofNat x503)), .unset] [.int (Int32.ofNat x506)])
                have B505 : x506 ≤ 15 := hx507 ▸ own_posN_le _ _ _ _ _ _ _ _
                refine Goes.run X [(.istore 8, 2), (.iload 5, 2), (.iconst 1, 1)] (L' := #[.val (.ref b), .val (.int (3 : Int32)), .val (.int (0 : Int32)), .val (.int (Int32.ofNat x483)), .val (.int (Int32.ofNat x486)), .val (.int (Int32.ofNat x489)), .val (.int (Int32.ofNat x500)), .val (.int (Int32.ofNat x503)), .val (.int (Int32.ofNat x506))]) (S' := [.int (1 : Int32), .int (Int32.ofNat x489)]) (pc' := 134) rfl ?_
                have J3 : ∀ (g1 : ¬ (x489 = 1 ∧ (x486 = 0 ∨ ¬ x506 = x503 + 1))) (g2 : ¬ (x483 = 1 ∧ x486 = 1 ∧ x503 < x500)), Goes p l e ({ frames := 4, cells := 0, slots := 0, locals := 58 } : Room) s m args below meth c Z a0 h0 h ([(b, oC6 c0 c1 c2 c3 c4 c5)].map (·.1)) ({ frames := 4, cells := 0, slots := 0, locals := 58 } : Room).cells ({ frames := 4, cells := 0, slots := 0, locals := 58 } : Room).slots (fun v F => v = some (.int (Int32.ofNat (own_refN 3 [(own_cl c0), (own_cl c1), (own_cl c2)]))) ∧ F = [(b, oC6 c0 c1 c2 c3 c4 c5)]) [(b, oC6 c0 c1 c2 c3 c4 c5)] 0 0 (mkF m 173 #[.val (.ref b), .val (.int (3 : Int32)), .val (.int (0 : Int32)), .val (.int (Int32.ofNat x483)), .val (.int (Int32.ofNat x486)), .val (.int (Int32.ofNat x489)), .val (.int (Int32.ofNat x500)), .val (.int (Int32.ofNat x503)), .val (.int (Int32.ofNat x506))] []) := by
                  intro g1 g2
                  refine Goes.runS X [(.iload_n 3, 1), (.iconst 1, 1)] (S' := [.int (1 : Int32), .int (Int32.ofNat x483)]) (pc' := 175) rfl ?_
                  refine Goes.if2 X (pc' := 200) (o := 25) (cd := .ne) (fun q508 => ?_) (fun q508 => ?_)
                  · have h509 := own_sT (own_s2 _ B482) q508
                    refine Goes.runS X [(.iconst 1, 1)] (S' := [.int (1 : Int32)]) (pc' := 201) rfl ?_
                    refine Goes.retI X (by simp) rfl ?_
                    exact ⟨by rw [ha, own_refA]; (try simp only [hx471, hx484, hx487, hx490, hx501, hx504, hx507, Nat.reduceSub, Nat.reduceAdd]); (repeat' split) <;> first | rfl | (exfalso; omega), rfl⟩
                  · have h510 := own_sF (own_s2 _ B482) q508
                    have h510 := Classical.not_not.mp h510
                    refine Goes.runS X [(.iload 6, 2), (.iconst 1, 1), (.iadd, 1), (.iload_n 1, 1)] (S' := [.int (3 : Int32), .int ((Int32.ofNat x500) + (1 : Int32))]) (pc' := 183) rfl ?_
                    refine Goes.if2 X (pc' := 198) (o := 15) (cd := .ge) (fun q511 => ?_) (fun q511 => ?_)
                    · have h512 := own_sT (own_s5 3 (by decide) _ B499) q511
                      refine Goes.runS X [(.iconst 0, 1)] (S' := [.int (0 : Int32)]) (pc' := 199) rfl ?_
                      refine Goes.retI X (by simp) rfl ?_
                      exact ⟨by rw [ha, own_refA]; (try simp only [hx471, hx484, hx487, hx490, hx501, hx504, hx507, Nat.reduceSub, Nat.reduceAdd]); (repeat' split) <;> first | rfl | (exfalso; omega), rfl⟩
                    · have h513 := own_sF (own_s5 3 (by decide) _ B499) q511
                      have h513 := Classical.not_not.mp h513
                      refine Goes.runS X [(.aload_n 0, 1), (.iload 6, 2), (.iconst 1, 1), (.iadd, 1)] (S' := [.int ((Int32.ofNat x500) + (1 : Int32)), .ref b]) (pc' := 191) rfl ?_
                      have z514 : x500 = 0 ∨ x500 = 1 := by omega
                      rcases z514 with z514 | z514
                      · rw [z514]
                        show Goes _ _ _ _ _ _ _ _ _ _ _ _ _ _ _ _ _ _ [(b, oC6 c0 c1 c2 c3 c4 c5)] 0 0 (mkF m 191 #[.val (.ref b), .val (.int (3 : Int32)), .val (.int (0 : Int32)), .val (.int (Int32.ofNat x483)), .val (.int (Int32.ofNat x486)), .val (.int (Int32.ofNat x489)), .val (.int (Int32.ofNat 0)), .val (.int (Int32.ofNat x503)), .val (.int (Int32.ofNat x506))] [.int ((Int32.ofNat 0) + (1 : Int32)), .ref b])
                        refine Goes.caload X 0 1 rfl (by decide) (by decide) rfl ?_
                        refine Goes.callS X 0 [] [0] (D_dg l Z a0 h0 hw c1) (wd hw 86 rfl) (wd hw 87 rfl) (wd hw 4 rfl) (wd hw 88 rfl) pd_y_13 rfl (st := []) rfl rfl (G := [(b, oC6 c0 c1 c2 c3 c4 c5)]) rfl rfl ?_
                        rintro _ _ ⟨rfl, rfl⟩
                        refine Goes.if1 X (pc' := 200) (o := 5) (cd := .ne) (fun q515 => ?_) (fun q515 => ?_)
                        · have h516 : ¬ own_dig c1 = 0 := by simpa [ifCond.holds] using q515
                          have g517 : own_g [(own_cl c0), (own_cl c1), (own_cl c2)] 1 = 4 := by show own_cl c1 = 4; rw [own_cl4]; simpa using h516
                          refine Goes.runS X [(.iconst 1, 1)] (S' := [.int (1 : Int32)]) (pc' := 201) rfl ?_
                          refine Goes.retI X (by simp) rfl ?_
                          exact ⟨by rw [ha, own_refA]; (try simp only [hx471, hx484, hx487, hx490, hx501, hx504, hx507, z514, Nat.reduceSub, Nat.reduceAdd]); (repeat' split) <;> first | rfl | (exfalso; omega), rfl⟩
                        · have h518 : own_dig c1 = 0 := by simpa [ifCond.holds] using q515
                          have g519 : ¬ own_g [(own_cl c0), (own_cl c1), (own_cl c2)] 1 = 4 := by show ¬ own_cl c1 = 4; rw [own_cl4]; simpa using h518
                          refine Goes.runS X [(.iconst 0, 1)] (S' := [.int (0 : Int32)]) (pc' := 199) rfl ?_
                          refine Goes.retI X (by simp) rfl ?_
                          exact ⟨by rw [ha, own_refA]; (try simp only [hx471, hx484, hx487, hx490, hx501, hx504, hx507, z514, Nat.reduceSub, Nat.reduceAdd]); (repeat' split) <;> first | rfl | (exfalso; omega), rfl⟩
                      · rw [z514]
                        show Goes _ _ _ _ _ _ _ _ _ _ _ _ _ _ _ _ _ _ [(b, oC6 c0 c1 c2 c3 c4 c5)] 0 0 (mkF m 191 #[.val (.ref b), .val (.int (3 : Int32)), .val (.int (0 : Int32)), .val (.int (Int32.ofNat x483)), .val (.int (Int32.ofNat x486)), .val (.int (Int32.ofNat x489)), .val (.int (Int32.ofNat 1)), .val (.int (Int32.ofNat x503)), .val (.int (Int32.ofNat x506))] [.int ((Int32.ofNat 1) + (1 : Int32)), .ref b])
                        refine Goes.caload X 0 2 rfl (by decide) (by decide) rfl ?_
                        refine Goes.callS X 0 [] [0] (D_dg l Z a0 h0 hw c2) (wd hw 86 rfl) (wd hw 87 rfl) (wd hw 4 rfl) (wd hw 88 rfl) pd_y_13 rfl (st := []) rfl rfl (G := [(b, oC6 c0 c1 c2 c3 c4 c5)]) rfl rfl ?_
                        rintro _ _ ⟨rfl, rfl⟩
                        refine Goes.if1 X (pc' := 200) (o := 5) (cd := .ne) (fun q520 => ?_) (fun q520 => ?_)
                        · have h521 : ¬ own_dig c2 = 0 := by simpa [ifCond.holds] using q520
                          have g522 : own_g [(own_cl c0), (own_cl c1), (own_cl c2)] 2 = 4 := by show own_cl c2 = 4; rw [own_cl4]; simpa using h521
                          refine Goes.runS X [(.iconst 1, 1)] (S' := [.int (1 : Int32)]) (pc' := 201) rfl ?_
                          refine Goes.retI X (by simp) rfl ?_
                          exact ⟨by rw [ha, own_refA]; (try simp only [hx471, hx484, hx487, hx490, hx501, hx504, hx507, z514, Nat.reduceSub, Nat.reduceAdd]); (repeat' split) <;> first | rfl | (exfalso; omega), rfl⟩
                        · have h523 : own_dig c2 = 0 := by simpa [ifCond.holds] using q520
                          have g524 : ¬ own_g [(own_cl c0), (own_cl c1), (own_cl c2)] 2 = 4 := by show ¬ own_cl c2 = 4; rw [own_cl4]; simpa using h523
                          refine Goes.runS X [(.iconst 0, 1)] (S' := [.int (0 : Int32)]) (pc' := 199) rfl ?_
                          refine Goes.retI X (by simp) rfl ?_
                          exact ⟨by rw [ha, own_refA]; (try simp only [hx471, hx484, hx487, hx490, hx501, hx504, hx507, z514, Nat.reduceSub, Nat.reduceAdd]); (repeat' split) <;> first | rfl | (exfalso; omega), rfl⟩
                have J2 : ∀ (g1 : ¬ (x489 = 1 ∧ (x486 = 0 ∨ ¬ x506 = x503 + 1))), Goes p l e ({ frames := 4, cells := 0, slots := 0, locals := 58 } : Room) s m args below meth c Z a0 h0 h ([(b, oC6 c0 c1 c2 c3 c4 c5)].map (·.1)) ({ frames := 4, cells := 0, slots := 0, locals := 58 } : Room).cells ({ frames := 4, cells := 0, slots := 0, locals := 58 } : Room).slots (fun v F => v = some (.int (Int32.ofNat (own_refN 3 [(own_cl c0), (own_cl c1), (own_cl c2)]))) ∧ F = [(b, oC6 c0 c1 c2 c3 c4 c5)]) [(b, oC6 c0 c1 c2 c3 c4 c5)] 0 0 (mkF m 153 #[.val (.ref b), .val (.int (3 : Int32)), .val (.int (0 : Int32)), .val (.int (Int32.ofNat x483)), .val (.int (Int32.ofNat x486)), .val (.int (Int32.ofNat x489)), .val (.int (Int32.ofNat x500)), .val (.int (Int32.ofNat x503)), .val (.int (Int32.ofNat x506))] []) := by
                  intro g1
                  refine Goes.runS X [(.iload_n 3, 1), (.iconst 1, 1)] (S' := [.int (1 : Int32), .int (Int32.ofNat x483)]) (pc' := 155) rfl ?_
                  refine Goes.if2 X (pc' := 173) (o := 18) (cd := .ne) (fun q525 => ?_) (fun q525 => ?_)
                  · have h526 := own_sT (own_s2 _ B482) q525
                    exact J3 g1 (fun z => h526 z.1)
                  · have h527 := own_sF (own_s2 _ B482) q525
                    have h527 := Classical.not_not.mp h527
                    refine Goes.runS X [(.iload 4, 2), (.iconst 1, 1)] (S' := [.int (1 : Int32), .int (Int32.ofNat x486)]) (pc' := 161) rfl ?_
                    refine Goes.if2 X (pc' := 173) (o := 12) (cd := .ne) (fun q528 => ?_) (fun q528 => ?_)
                    · have h529 := own_sT (own_s2 _ B485) q528
                      exact J3 g1 (fun z => h529 z.2.1)
                    · have h530 := own_sF (own_s2 _ B485) q528
                      have h530 := Classical.not_not.mp h530
                      refine Goes.runS X [(.iload 6, 2), (.iload 7, 2)] (S' := [.int (Int32.ofNat x503), .int (Int32.ofNat x500)]) (pc' := 168) rfl ?_
                      refine Goes.if2 X (pc' := 173) (o := 5) (cd := .le) (fun q531 => ?_) (fun q531 => ?_)
                      · have h532 := own_sT (own_s4 _ B499 _ B502) q531
                        exact J3 g1 (fun z => h532 z.2.2)
                      · have h533 := own_sF (own_s4 _ B499 _ B502) q531
                        have h533 := Classical.not_not.mp h533
                        refine Goes.runS X [(.iconst 0, 1)] (S' := [.int (0 : Int32)]) (pc' := 172) rfl ?_
                        refine Goes.retI X (by simp) rfl ?_
                        exact ⟨by rw [ha, own_refA]; (try simp only [hx471, hx484, hx487, hx490, hx501, hx504, hx507, Nat.reduceSub, Nat.reduceAdd]); (repeat' split) <;> first | rfl | (exfalso; omega), rfl⟩
                refine Goes.if2 X (pc' := 153) (o := 19) (cd := .ne) (fun q534 => ?_) (fun q534 => ?_)
                · have h535 := own_sT (own_s2 _ B488) q534
                  exact J2 (fun z => h535 z.1)
                · have h536 := own_sF (own_s2 _ B488) q534
                  have h536 := Classical.not_not.mp h536
                  refine Goes.runS X [(.iload 4, 2)] (S' := [.int (Int32.ofNat x486)]) (pc' := 139) rfl ?_
                  refine Goes.if1 X (pc' := 151) (o := 12) (cd := .eq) (fun q537 => ?_) (fun q537 => ?_)
                  · have h538 := own_sT (own_s0 _ B485) q537
                    refine Goes.runS X [(.iconst 0, 1)] (S' := [.int (0 : Int32)]) (pc' := 152) rfl ?_
                    refine Goes.retI X (by simp) rfl ?_
                    exact ⟨by rw [ha, own_refA]; (try simp only [hx471, hx484, hx487, hx490, hx501, hx504, hx507, Nat.reduceSub, Nat.reduceAdd]); (repeat' split) <;> first | rfl | (exfalso; omega), rfl⟩
                  · have h539 := own_sF (own_s0 _ B485) q537
                    refine Goes.runS X [(.iload 8, 2), (.iload 7, 2), (.iconst 1, 1), (.iadd, 1)] (S' := [.int ((Int32.ofNat x503) + (1 : Int32)), .int (Int32.ofNat x506)]) (pc' := 148) rfl ?_
                    refine Goes.if2 X (pc' := 153) (o := 5) (cd := .eq) (fun q540 => ?_) (fun q540 => ?_)
                    · have h541 := own_sT (own_s3 _ B505 _ B502) q540
                      exact J2 (fun z => z.2.elim h539 (fun y => y h541))
                    · have h542 := own_sF (own_s3 _ B505 _ B502) q540
                      refine Goes.runS X [(.iconst 0, 1)] (S' := [.int (0 : Int32)]) (pc' := 152) rfl ?_
                      refine Goes.retI X (by simp) rfl ?_
                      exact ⟨by rw [ha, own_refA]; (try simp only [hx471, hx484, hx487, hx490, hx501, hx504, hx507, Nat.reduceSub, Nat.reduceAdd]); (repeat' split) <;> first | rfl | (exfalso; omega), rfl⟩
              · have h543 := own_sF (own_s1' _ B488) q497
                have h543 := Classical.not_not.mp h543
                refine Goes.runS X [(.iconst 0, 1)] (S' := [.int (0 : Int32)]) (pc' := 103) rfl ?_
                refine Goes.retI X (by simp) rfl ?_
                exact ⟨by rw [ha, own_refA]; (try simp only [hx471, hx484, hx487, hx490, Nat.reduceSub, Nat.reduceAdd]); (repeat' split) <;> first | rfl | (exfalso; omega), rfl⟩
        · have h544 : own_dig c2 = 0 := by simpa [ifCond.holds] using q479
          have g545 : ¬ own_g [(own_cl c0), (own_cl c1), (own_cl c2)] 2 = 4 := by show ¬ own_cl c2 = 4; rw [own_cl4]; simpa using h544
          refine Goes.runS X [(.iconst 0, 1)] (S' := [.int (0 : Int32)]) (pc' := 58) rfl ?_
          refine Goes.retI X (by simp) rfl ?_
          exact ⟨by rw [ha, own_refA]; (try simp only [hx471, Nat.reduceSub, Nat.reduceAdd]); (repeat' split) <;> first | rfl | (exfalso; omega), rfl⟩
    · have h546 := own_sF (own_s0 _ B469) q472
      refine Goes.runS X [(.iconst 0, 1)] (S' := [.int (0 : Int32)]) (pc' := 36) rfl ?_
      refine Goes.retI X (by simp) rfl ?_
      exact ⟨by rw [ha, own_refA_x (by rw [hx471]; omega)] <;> rfl, rfl⟩
  · have h547 : c0 = 45 := by simpa [if_icmp.holds] using q467
    have ha : own_refN 3 [(own_cl c0), (own_cl c1), (own_cl c2)] = own_refA 3 1 [(own_cl c0), (own_cl c1), (own_cl c2)] := congrArg (fun z => own_refA 3 z [(own_cl c0), (own_cl c1), (own_cl c2)]) (if_pos ⟨by decide, (own_cl0 _).mpr h547⟩)
    refine Goes.runS X [(.iconst 1, 1)] (S' := [.int (1 : Int32)]) (pc' := 13) rfl ?_
    refine Goes.goto X (o := 4) (pc' := 17) ?_
    refine Goes.run X [(.istore_n 2, 1), (.iload_n 1, 1), (.iload_n 2, 1)] (L' := #[.val (.ref b), .val (.int (3 : Int32)), .val (.int (1 : Int32)), .unset, .unset, .unset, .unset, .unset, .unset]) (S' := [.int (1 : Int32), .int (3 : Int32)]) (pc' := 20) rfl ?_
    refine Goes.if2 X (pc' := 25) (o := 5) (cd := .gt) (fun _ => ?_) (fun q => absurd q (by decide))
    refine Goes.runS X [(.aload_n 0, 1), (.iconst 0, 1), (.iload_n 1, 1), (.iconst 3, 1)] (S' := [.int (3 : Int32), .int (3 : Int32), .int (0 : Int32), .ref b]) (pc' := 29) rfl ?_
    refine Goes.callS X 0 [0] [] (D_cnt3 l Z a0 h0 hw b c0 c1 c2 c3 c4 c5 0 3 (by decide) (by decide)) (wd hw 77 rfl) (wd hw 78 rfl) (wd hw 4 rfl) (wd hw 79 rfl) pd_y_10 rfl (st := []) rfl rfl (G := []) rfl rfl ?_
    rintro _ _ ⟨rfl, rfl⟩
    obtain ⟨x549, hx550⟩ : ∃ x, own_cntL 0 3 3 [(own_cl c0), (own_cl c1), (own_cl c2)] = x := ⟨_, rfl⟩
    rw [show own_cntN 0 3 3 (own_cl c0) (own_cl c1) (own_cl c2) (own_cl c3) (own_cl c4) (own_cl c5) = x549 from hx550]
    show Goes _ _ _ _ _ _ _ _ _ _ _ _ _ _ _ _ _ _ [(b, oC6 c0 c1 c2 c3 c4 c5)] 0 0 (mkF m 32 #[.val (.ref b), .val (.int (3 : Int32)), .val (.int (1 : Int32)), .unset, .unset, .unset, .unset, .unset, .unset] [.int (Int32.ofNat x549)])
    have B548 : x549 ≤ 15 := hx550 ▸ Nat.le_trans (own_cntN_le _ _ _ _ _ _ _ _ _) (by decide)
    refine Goes.if1 X (pc' := 37) (o := 5) (cd := .eq) (fun q551 => ?_) (fun q551 => ?_)
    · have h552 := own_sT (own_s0 _ B548) q551
      refine Goes.runS X [(.aload_n 0, 1), (.iload_n 2, 1)] (S' := [.int (1 : Int32), .ref b]) (pc' := 39) rfl ?_
      refine Goes.caload X 0 1 rfl (by decide) (by decide) rfl ?_
      refine Goes.callS X 0 [] [0] (D_dg l Z a0 h0 hw c1) (wd hw 86 rfl) (wd hw 87 rfl) (wd hw 4 rfl) (wd hw 88 rfl) pd_y_13 rfl (st := []) rfl rfl (G := [(b, oC6 c0 c1 c2 c3 c4 c5)]) rfl rfl ?_
      rintro _ _ ⟨rfl, rfl⟩
      refine Goes.if1 X (pc' := 57) (o := 14) (cd := .eq) (fun q553 => ?_) (fun q553 => ?_)
      · have h554 : own_dig c1 = 0 := by simpa [ifCond.holds] using q553
        have g555 : ¬ own_g [(own_cl c0), (own_cl c1), (own_cl c2)] 1 = 4 := by show ¬ own_cl c1 = 4; rw [own_cl4]; simpa using h554
        refine Goes.runS X [(.iconst 0, 1)] (S' := [.int (0 : Int32)]) (pc' := 58) rfl ?_
        refine Goes.retI X (by simp) rfl ?_
        exact ⟨by rw [ha, own_refA]; (try simp only [hx550, Nat.reduceSub, Nat.reduceAdd]); (repeat' split) <;> first | rfl | (exfalso; omega), rfl⟩
      · have h556 : ¬ own_dig c1 = 0 := by simpa [ifCond.holds] using q553
        have g557 : own_g [(own_cl c0), (own_cl c1), (own_cl c2)] 1 = 4 := by show own_cl c1 = 4; rw [own_cl4]; simpa using h556
        refine Goes.runS X [(.aload_n 0, 1), (.iload_n 1, 1), (.iconst 1, 1), (.isub, 1)] (S' := [.int (2 : Int32), .ref b]) (pc' := 50) rfl ?_
        refine Goes.caload X 0 2 rfl (by decide) (by decide) rfl ?_
        refine Goes.callS X 0 [] [0] (D_dg l Z a0 h0 hw c2) (wd hw 86 rfl) (wd hw 87 rfl) (wd hw 4 rfl) (wd hw 88 rfl) pd_y_13 rfl (st := []) rfl rfl (G := [(b, oC6 c0 c1 c2 c3 c4 c5)]) rfl rfl ?_
        rintro _ _ ⟨rfl, rfl⟩
        refine Goes.if1 X (pc' := 59) (o := 5) (cd := .ne) (fun q558 => ?_) (fun q558 => ?_)
        · have h559 : ¬ own_dig c2 = 0 := by simpa [ifCond.holds] using q558
          have g560 : own_g [(own_cl c0), (own_cl c1), (own_cl c2)] 2 = 4 := by show own_cl c2 = 4; rw [own_cl4]; simpa using h559
          refine Goes.runS X [(.aload_n 0, 1), (.iconst 0, 1), (.iload_n 1, 1), (.iconst 0, 1)] (S' := [.int (0 : Int32), .int (3 : Int32), .int (0 : Int32), .ref b]) (pc' := 63) rfl ?_
          refine Goes.callS X 0 [0] [] (D_cnt0 l Z a0 h0 hw b c0 c1 c2 c3 c4 c5 0 3 (by decide) (by decide)) (wd hw 77 rfl) (wd hw 78 rfl) (wd hw 4 rfl) (wd hw 79 rfl) pd_y_10 rfl (st := []) rfl rfl (G := []) rfl rfl ?_
          rintro _ _ ⟨rfl, rfl⟩
          obtain ⟨x562, hx563⟩ : ∃ x, own_cntL 0 3 0 [(own_cl c0), (own_cl c1), (own_cl c2)] = x := ⟨_, rfl⟩
          rw [show own_cntN 0 3 0 (own_cl c0) (own_cl c1) (own_cl c2) (own_cl c3) (own_cl c4) (own_cl c5) = x562 from hx563]
          show Goes _ _ _ _ _ _ _ _ _ _ _ _ _ _ _ _ _ _ [(b, oC6 c0 c1 c2 c3 c4 c5)] 0 0 (mkF m 66 #[.val (.ref b), .val (.int (3 : Int32)), .val (.int (1 : Int32)), .unset, .unset, .unset, .unset, .unset, .unset] [.int (Int32.ofNat x562)])
          have B561 : x562 ≤ 15 := hx563 ▸ Nat.le_trans (own_cntN_le _ _ _ _ _ _ _ _ _) (by decide)
          refine Goes.run X [(.istore_n 3, 1), (.aload_n 0, 1), (.iconst 0, 1), (.iload_n 1, 1), (.iconst 1, 1)] (L' := #[.val (.ref b), .val (.int (3 : Int32)), .val (.int (1 : Int32)), .val (.int (Int32.ofNat x562)), .unset, .unset, .unset, .unset, .unset]) (S' := [.int (1 : Int32), .int (3 : Int32), .int (0 : Int32), .ref b]) (pc' := 71) rfl ?_
          refine Goes.callS X 0 [0] [] (D_cnt1 l Z a0 h0 hw b c0 c1 c2 c3 c4 c5 0 3 (by decide) (by decide)) (wd hw 77 rfl) (wd hw 78 rfl) (wd hw 4 rfl) (wd hw 79 rfl) pd_y_10 rfl (st := []) rfl rfl (G := []) rfl rfl ?_
          rintro _ _ ⟨rfl, rfl⟩
          obtain ⟨x565, hx566⟩ : ∃ x, own_cntL 0 3 1 [(own_cl c0), (own_cl c1), (own_cl c2)] = x := ⟨_, rfl⟩
          rw [show own_cntN 0 3 1 (own_cl c0) (own_cl c1) (own_cl c2) (own_cl c3) (own_cl c4) (own_cl c5) = x565 from hx566]
          show Goes _ _ _ _ _ _ _ _ _ _ _ _ _ _ _ _ _ _ [(b, oC6 c0 c1 c2 c3 c4 c5)] 0 0 (mkF m 74 #[.val (.ref b), .val (.int (3 : Int32)), .val (.int (1 : Int32)), .val (.int (Int32.ofNat x562)), .unset, .unset, .unset, .unset, .unset] [.int (Int32.ofNat x565)])
          have B564 : x565 ≤ 15 := hx566 ▸ Nat.le_trans (own_cntN_le _ _ _ _ _ _ _ _ _) (by decide)
          refine Goes.run X [(.istore 4, 2), (.aload_n 0, 1), (.iload_n 2, 1), (.iload_n 1, 1), (.iconst 2, 1)] (L' := #[.val (.ref b), .val (.int (3 : Int32)), .val (.int (1 : Int32)), .val (.int (Int32.ofNat x562)), .val (.int (Int32.ofNat x565)), .unset, .unset, .unset, .unset]) (S' := [.int (2 : Int32), .int (3 : Int32), .int (1 : Int32), .ref b]) (pc' := 80) rfl ?_
          refine Goes.callS X 0 [0] [] (D_cnt2 l Z a0 h0 hw b c0 c1 c2 c3 c4 c5 1 3 (by decide) (by decide)) (wd hw 77 rfl) (wd hw 78 rfl) (wd hw 4 rfl) (wd hw 79 rfl) pd_y_10 rfl (st := []) rfl rfl (G := []) rfl rfl ?_
          rintro _ _ ⟨rfl, rfl⟩
          obtain ⟨x568, hx569⟩ : ∃ x, own_cntL 1 3 2 [(own_cl c0), (own_cl c1), (own_cl c2)] = x := ⟨_, rfl⟩
          rw [show own_cntN 1 3 2 (own_cl c0) (own_cl c1) (own_cl c2) (own_cl c3) (own_cl c4) (own_cl c5) = x568 from hx569]
          show Goes _ _ _ _ _ _ _ _ _ _ _ _ _ _ _ _ _ _ [(b, oC6 c0 c1 c2 c3 c4 c5)] 0 0 (mkF m 83 #[.val (.ref b), .val (.int (3 : Int32)), .val (.int (1 : Int32)), .val (.int (Int32.ofNat x562)), .val (.int (Int32.ofNat x565)), .unset, .unset, .unset, .unset] [.int (Int32.ofNat x568)])
          have B567 : x568 ≤ 15 := hx569 ▸ Nat.le_trans (own_cntN_le _ _ _ _ _ _ _ _ _) (by decide)
          refine Goes.run X [(.istore 5, 2), (.iload_n 3, 1), (.iconst 1, 1)] (L' := #[.val (.ref b), .val (.int (3 : Int32)), .val (.int (1 : Int32)), .val (.int (Int32.ofNat x562)), .val (.int (Int32.ofNat x565)), .val (.int (Int32.ofNat x568)), .unset, .unset, .unset]) (S' := [.int (1 : Int32), .int (Int32.ofNat x562)]) (pc' := 87) rfl ?_
          refine Goes.if2 X (pc' := 102) (o := 15) (cd := .gt) (fun q570 => ?_) (fun q570 => ?_)
          · have h571 := own_sT (own_s1 _ B561) q570
            refine Goes.runS X [(.iconst 0, 1)] (S' := [.int (0 : Int32)]) (pc' := 103) rfl ?_
            refine Goes.retI X (by simp) rfl ?_
            exact ⟨by rw [ha, own_refA]; (try simp only [hx550, hx563, hx566, hx569, Nat.reduceSub, Nat.reduceAdd]); (repeat' split) <;> first | rfl | (exfalso; omega), rfl⟩
          · have h572 := own_sF (own_s1 _ B561) q570
            refine Goes.runS X [(.iload 4, 2), (.iconst 1, 1)] (S' := [.int (1 : Int32), .int (Int32.ofNat x565)]) (pc' := 93) rfl ?_
            refine Goes.if2 X (pc' := 102) (o := 9) (cd := .gt) (fun q573 => ?_) (fun q573 => ?_)
            · have h574 := own_sT (own_s1 _ B564) q573
              refine Goes.runS X [(.iconst 0, 1)] (S' := [.int (0 : Int32)]) (pc' := 103) rfl ?_
              refine Goes.retI X (by simp) rfl ?_
              exact ⟨by rw [ha, own_refA]; (try simp only [hx550, hx563, hx566, hx569, Nat.reduceSub, Nat.reduceAdd]); (repeat' split) <;> first | rfl | (exfalso; omega), rfl⟩
            · have h575 := own_sF (own_s1 _ B564) q573
              refine Goes.runS X [(.iload 5, 2), (.iconst 1, 1)] (S' := [.int (1 : Int32), .int (Int32.ofNat x568)]) (pc' := 99) rfl ?_
              refine Goes.if2 X (pc' := 104) (o := 5) (cd := .le) (fun q576 => ?_) (fun q576 => ?_)
              · have h577 := own_sT (own_s1' _ B567) q576
                refine Goes.runS X [(.aload_n 0, 1), (.iconst 0, 1), (.iload_n 1, 1), (.iconst 0, 1)] (S' := [.int (0 : Int32), .int (3 : Int32), .int (0 : Int32), .ref b]) (pc' := 108) rfl ?_
                refine Goes.callS X 0 [0] [] (D_pos0 l Z a0 h0 hw b c0 c1 c2 c3 c4 c5 0 3 (by decide) (by decide)) (wd hw 118 rfl) (wd hw 119 rfl) (wd hw 4 rfl) (wd hw 120 rfl) pd_y_20 rfl (st := []) rfl rfl (G := []) rfl rfl ?_
                rintro _ _ ⟨rfl, rfl⟩
                obtain ⟨x579, hx580⟩ : ∃ x, own_posL 0 3 0 [(own_cl c0), (own_cl c1), (own_cl c2)] = x := ⟨_, rfl⟩
                rw [show own_posN 0 3 0 (own_cl c1) (own_cl c2) (own_cl c3) (own_cl c4) (own_cl c5) = x579 from hx580]
                show Goes _ _ _ _ _ _ _ _ _ _ _ _ _ _ _ _ _ _ [(b, oC6 c0 c1 c2 c3 c4 c5)] 0 0 (mkF m 111 #[.val (.ref b), .val (.int (3 : Int32)), .val (.int (1 : Int32)), .val (.int (Int32.ofNat x562)), .val (.int (Int32.ofNat x565)), .val (.int (Int32.ofNat x568)), .unset, .unset, .unset] [.int (Int32.ofNat x579)])
                have B578 : x579 ≤ 15 := hx580 ▸ own_posN_le _ _ _ _ _ _ _ _
                refine Goes.run X [(.istore 6, 2), (.aload_n 0, 1), (.iconst 0, 1), (.iload_n 1, 1), (.iconst 1, 1)] (L' := #[.val (.ref b), .val (.int (3 : Int32)), .val (.int (1 : Int32)), .val (.int (Int32.ofNat x562)), .val (.int (Int32.ofNat x565)), .val (.int (Int32.ofNat x568)), .val (.int (Int32.ofNat x579)), .unset, .unset]) (S' := [.int (1 : Int32), .int (3 : Int32), .int (0 : Int32), .ref b]) (pc' := 117) rfl ?_
                refine Goes.callS X 0 [0] [] (D_pos1 l Z a0 h0 hw b c0 c1 c2 c3 c4 c5 0 3 (by decide) (by decide)) (wd hw 118 rfl) (wd hw 119 rfl) (wd hw 4 rfl) (wd hw 120 rfl) pd_y_20 rfl (st := []) rfl rfl (G := []) rfl rfl ?_
                rintro _ _ ⟨rfl, rfl⟩
                obtain ⟨x582, hx583⟩ : ∃ x, own_posL 0 3 1 [(own_cl c0), (own_cl c1), (own_cl c2)] = x := ⟨_, rfl⟩
                rw [show own_posN 0 3 1 (own_cl c1) (own_cl c2) (own_cl c3) (own_cl c4) (own_cl c5) = x582 from hx583]
                show Goes _ _ _ _ _ _ _ _ _ _ _ _ _ _ _ _ _ _ [(b, oC6 c0 c1 c2 c3 c4 c5)] 0 0 (mkF m 120 #[.val (.ref b), .val (.int (3 : Int32)), .val (.int (1 : Int32)), .val (.int (Int32.ofNat x562)), .val (.int (Int32.ofNat x565)), .val (.int (Int32.ofNat x568)), .val (.int (Int32.ofNat x579)), .unset, .unset] [.int (Int32.ofNat x582)])
                have B581 : x582 ≤ 15 := hx583 ▸ own_posN_le _ _ _ _ _ _ _ _
                refine Goes.run X [(.istore 7, 2), (.aload_n 0, 1), (.iload_n 2, 1), (.iload_n 1, 1), (.iconst 2, 1)] (L' := #[.val (.ref b), .val (.int (3 : Int32)), .val (.int (1 : Int32)), .val (.int (Int32.ofNat x562)), .val (.int (Int32.ofNat x565)), .val (.int (Int32.ofNat x568)), .val (.int (Int32.ofNat x579)), .val (.int (Int32.ofNat x582)), .unset]) (S' := [.int (2 : Int32), .int (3 : Int32), .int (1 : Int32), .ref b]) (pc' := 126) rfl ?_
                refine Goes.callS X 0 [0] [] (D_pos2 l Z a0 h0 hw b c0 c1 c2 c3 c4 c5 1 3 (by decide) (by decide)) (wd hw 118 rfl) (wd hw 119 rfl) (wd hw 4 rfl) (wd hw 120 rfl) pd_y_20 rfl (st := []) rfl rfl (G := []) rfl rfl ?_
                rintro _ _ ⟨rfl, rfl⟩
                obtain ⟨x585, hx586⟩ : ∃ x, own_posL 1 3 2 [(own_cl c0), (own_cl c1), (own_cl c2)] = x := ⟨_, rfl⟩
                rw [show own_posN 1 3 2 (own_cl c1) (own_cl c2) (own_cl c3) (own_cl c4) (own_cl c5) = x585 from hx586]
                show Goes _ _ _ _ _ _ _ _ _ _ _ _ _ _ _ _ _ _ [(b, oC6 c0 c1 c2 c3 c4 c5)] 0 0 (mkF m 129 #[.val (.ref b), .val (.int (3 : Int32)), .val (.int (1 : Int32)), .val (.int (Int32.ofNat x562)), .val (.int (Int32.ofNat x565)), .val (.int (Int32.ofNat x568)), .val (.int (Int32.ofNat x579)), .val (.int (Int32.ofNat x582)), .unset] [.int (Int32.ofNat x585)])
                have B584 : x585 ≤ 15 := hx586 ▸ own_posN_le _ _ _ _ _ _ _ _
                refine Goes.run X [(.istore 8, 2), (.iload 5, 2), (.iconst 1, 1)] (L' := #[.val (.ref b), .val (.int (3 : Int32)), .val (.int (1 : Int32)), .val (.int (Int32.ofNat x562)), .val (.int (Int32.ofNat x565)), .val (.int (Int32.ofNat x568)), .val (.int (Int32.ofNat x579)), .val (.int (Int32.ofNat x582)), .val (.int (Int32.ofNat x585))]) (S' := [.int (1 : Int32), .int (Int32.ofNat x568)]) (pc' := 134) rfl ?_
                have J3 : ∀ (g1 : ¬ (x568 = 1 ∧ (x565 = 0 ∨ ¬ x585 = x582 + 1))) (g2 : ¬ (x562 = 1 ∧ x565 = 1 ∧ x582 < x579)), Goes p l e ({ frames := 4, cells := 0, slots := 0, locals := 58 } : Room) s m args below meth c Z a0 h0 h ([(b, oC6 c0 c1 c2 c3 c4 c5)].map (·.1)) ({ frames := 4, cells := 0, slots := 0, locals := 58 } : Room).cells ({ frames := 4, cells := 0, slots := 0, locals := 58 } : Room).slots (fun v F => v = some (.int (Int32.ofNat (own_refN 3 [(own_cl c0), (own_cl c1), (own_cl c2)]))) ∧ F = [(b, oC6 c0 c1 c2 c3 c4 c5)]) [(b, oC6 c0 c1 c2 c3 c4 c5)] 0 0 (mkF m 173 #[.val (.ref b), .val (.int (3 : Int32)), .val (.int (1 : Int32)), .val (.int (Int32.ofNat x562)), .val (.int (Int32.ofNat x565)), .val (.int (Int32.ofNat x568)), .val (.int (Int32.ofNat x579)), .val (.int (Int32.ofNat x582)), .val (.int (Int32.ofNat x585))] []) := by
                  intro g1 g2
                  refine Goes.runS X [(.iload_n 3, 1), (.iconst 1, 1)] (S' := [.int (1 : Int32), .int (Int32.ofNat x562)]) (pc' := 175) rfl ?_
                  refine Goes.if2 X (pc' := 200) (o := 25) (cd := .ne) (fun q587 => ?_) (fun q587 => ?_)
                  · have h588 := own_sT (own_s2 _ B561) q587
                    refine Goes.runS X [(.iconst 1, 1)] (S' := [.int (1 : Int32)]) (pc' := 201) rfl ?_
                    refine Goes.retI X (by simp) rfl ?_
                    exact ⟨by rw [ha, own_refA]; (try simp only [hx550, hx563, hx566, hx569, hx580, hx583, hx586, Nat.reduceSub, Nat.reduceAdd]); (repeat' split) <;> first | rfl | (exfalso; omega), rfl⟩
                  · have h589 := own_sF (own_s2 _ B561) q587
                    have h589 := Classical.not_not.mp h589
                    refine Goes.runS X [(.iload 6, 2), (.iconst 1, 1), (.iadd, 1), (.iload_n 1, 1)] (S' := [.int (3 : Int32), .int ((Int32.ofNat x579) + (1 : Int32))]) (pc' := 183) rfl ?_
                    refine Goes.if2 X (pc' := 198) (o := 15) (cd := .ge) (fun q590 => ?_) (fun q590 => ?_)
                    · have h591 := own_sT (own_s5 3 (by decide) _ B578) q590
                      refine Goes.runS X [(.iconst 0, 1)] (S' := [.int (0 : Int32)]) (pc' := 199) rfl ?_
                      refine Goes.retI X (by simp) rfl ?_
                      exact ⟨by rw [ha, own_refA]; (try simp only [hx550, hx563, hx566, hx569, hx580, hx583, hx586, Nat.reduceSub, Nat.reduceAdd]); (repeat' split) <;> first | rfl | (exfalso; omega), rfl⟩
                    · have h592 := own_sF (own_s5 3 (by decide) _ B578) q590
                      have h592 := Classical.not_not.mp h592
                      refine Goes.runS X [(.aload_n 0, 1), (.iload 6, 2), (.iconst 1, 1), (.iadd, 1)] (S' := [.int ((Int32.ofNat x579) + (1 : Int32)), .ref b]) (pc' := 191) rfl ?_
                      have z593 : x579 = 0 ∨ x579 = 1 := by omega
                      rcases z593 with z593 | z593
                      · rw [z593]
                        show Goes _ _ _ _ _ _ _ _ _ _ _ _ _ _ _ _ _ _ [(b, oC6 c0 c1 c2 c3 c4 c5)] 0 0 (mkF m 191 #[.val (.ref b), .val (.int (3 : Int32)), .val (.int (1 : Int32)), .val (.int (Int32.ofNat x562)), .val (.int (Int32.ofNat x565)), .val (.int (Int32.ofNat x568)), .val (.int (Int32.ofNat 0)), .val (.int (Int32.ofNat x582)), .val (.int (Int32.ofNat x585))] [.int ((Int32.ofNat 0) + (1 : Int32)), .ref b])
                        refine Goes.caload X 0 1 rfl (by decide) (by decide) rfl ?_
                        refine Goes.callS X 0 [] [0] (D_dg l Z a0 h0 hw c1) (wd hw 86 rfl) (wd hw 87 rfl) (wd hw 4 rfl) (wd hw 88 rfl) pd_y_13 rfl (st := []) rfl rfl (G := [(b, oC6 c0 c1 c2 c3 c4 c5)]) rfl rfl ?_
                        rintro _ _ ⟨rfl, rfl⟩
                        refine Goes.if1 X (pc' := 200) (o := 5) (cd := .ne) (fun q594 => ?_) (fun q594 => ?_)
                        · have h595 : ¬ own_dig c1 = 0 := by simpa [ifCond.holds] using q594
                          have g596 : own_g [(own_cl c0), (own_cl c1), (own_cl c2)] 1 = 4 := by show own_cl c1 = 4; rw [own_cl4]; simpa using h595
                          refine Goes.runS X [(.iconst 1, 1)] (S' := [.int (1 : Int32)]) (pc' := 201) rfl ?_
                          refine Goes.retI X (by simp) rfl ?_
                          exact ⟨by rw [ha, own_refA]; (try simp only [hx550, hx563, hx566, hx569, hx580, hx583, hx586, z593, Nat.reduceSub, Nat.reduceAdd]); (repeat' split) <;> first | rfl | (exfalso; omega), rfl⟩
                        · have h597 : own_dig c1 = 0 := by simpa [ifCond.holds] using q594
                          have g598 : ¬ own_g [(own_cl c0), (own_cl c1), (own_cl c2)] 1 = 4 := by show ¬ own_cl c1 = 4; rw [own_cl4]; simpa using h597
                          refine Goes.runS X [(.iconst 0, 1)] (S' := [.int (0 : Int32)]) (pc' := 199) rfl ?_
                          refine Goes.retI X (by simp) rfl ?_
                          exact ⟨by rw [ha, own_refA]; (try simp only [hx550, hx563, hx566, hx569, hx580, hx583, hx586, z593, Nat.reduceSub, Nat.reduceAdd]); (repeat' split) <;> first | rfl | (exfalso; omega), rfl⟩
                      · rw [z593]
                        show Goes _ _ _ _ _ _ _ _ _ _ _ _ _ _ _ _ _ _ [(b, oC6 c0 c1 c2 c3 c4 c5)] 0 0 (mkF m 191 #[.val (.ref b), .val (.int (3 : Int32)), .val (.int (1 : Int32)), .val (.int (Int32.ofNat x562)), .val (.int (Int32.ofNat x565)), .val (.int (Int32.ofNat x568)), .val (.int (Int32.ofNat 1)), .val (.int (Int32.ofNat x582)), .val (.int (Int32.ofNat x585))] [.int ((Int32.ofNat 1) + (1 : Int32)), .ref b])
                        refine Goes.caload X 0 2 rfl (by decide) (by decide) rfl ?_
                        refine Goes.callS X 0 [] [0] (D_dg l Z a0 h0 hw c2) (wd hw 86 rfl) (wd hw 87 rfl) (wd hw 4 rfl) (wd hw 88 rfl) pd_y_13 rfl (st := []) rfl rfl (G := [(b, oC6 c0 c1 c2 c3 c4 c5)]) rfl rfl ?_
                        rintro _ _ ⟨rfl, rfl⟩
                        refine Goes.if1 X (pc' := 200) (o := 5) (cd := .ne) (fun q599 => ?_) (fun q599 => ?_)
                        · have h600 : ¬ own_dig c2 = 0 := by simpa [ifCond.holds] using q599
                          have g601 : own_g [(own_cl c0), (own_cl c1), (own_cl c2)] 2 = 4 := by show own_cl c2 = 4; rw [own_cl4]; simpa using h600
                          refine Goes.runS X [(.iconst 1, 1)] (S' := [.int (1 : Int32)]) (pc' := 201) rfl ?_
                          refine Goes.retI X (by simp) rfl ?_
                          exact ⟨by rw [ha, own_refA]; (try simp only [hx550, hx563, hx566, hx569, hx580, hx583, hx586, z593, Nat.reduceSub, Nat.reduceAdd]); (repeat' split) <;> first | rfl | (exfalso; omega), rfl⟩
                        · have h602 : own_dig c2 = 0 := by simpa [ifCond.holds] using q599
                          have g603 : ¬ own_g [(own_cl c0), (own_cl c1), (own_cl c2)] 2 = 4 := by show ¬ own_cl c2 = 4; rw [own_cl4]; simpa using h602
                          refine Goes.runS X [(.iconst 0, 1)] (S' := [.int (0 : Int32)]) (pc' := 199) rfl ?_
                          refine Goes.retI X (by simp) rfl ?_
                          exact ⟨by rw [ha, own_refA]; (try simp only [hx550, hx563, hx566, hx569, hx580, hx583, hx586, z593, Nat.reduceSub, Nat.reduceAdd]); (repeat' split) <;> first | rfl | (exfalso; omega), rfl⟩
                have J2 : ∀ (g1 : ¬ (x568 = 1 ∧ (x565 = 0 ∨ ¬ x585 = x582 + 1))), Goes p l e ({ frames := 4, cells := 0, slots := 0, locals := 58 } : Room) s m args below meth c Z a0 h0 h ([(b, oC6 c0 c1 c2 c3 c4 c5)].map (·.1)) ({ frames := 4, cells := 0, slots := 0, locals := 58 } : Room).cells ({ frames := 4, cells := 0, slots := 0, locals := 58 } : Room).slots (fun v F => v = some (.int (Int32.ofNat (own_refN 3 [(own_cl c0), (own_cl c1), (own_cl c2)]))) ∧ F = [(b, oC6 c0 c1 c2 c3 c4 c5)]) [(b, oC6 c0 c1 c2 c3 c4 c5)] 0 0 (mkF m 153 #[.val (.ref b), .val (.int (3 : Int32)), .val (.int (1 : Int32)), .val (.int (Int32.ofNat x562)), .val (.int (Int32.ofNat x565)), .val (.int (Int32.ofNat x568)), .val (.int (Int32.ofNat x579)), .val (.int (Int32.ofNat x582)), .val (.int (Int32.ofNat x585))] []) := by
                  intro g1
                  refine Goes.runS X [(.iload_n 3, 1), (.iconst 1, 1)] (S' := [.int (1 : Int32), .int (Int32.ofNat x562)]) (pc' := 155) rfl ?_
                  refine Goes.if2 X (pc' := 173) (o := 18) (cd := .ne) (fun q604 => ?_) (fun q604 => ?_)
                  · have h605 := own_sT (own_s2 _ B561) q604
                    exact J3 g1 (fun z => h605 z.1)
                  · have h606 := own_sF (own_s2 _ B561) q604
                    have h606 := Classical.not_not.mp h606
                    refine Goes.runS X [(.iload 4, 2), (.iconst 1, 1)] (S' := [.int (1 : Int32), .int (Int32.ofNat x565)]) (pc' := 161) rfl ?_
                    refine Goes.if2 X (pc' := 173) (o := 12) (cd := .ne) (fun q607 => ?_) (fun q607 => ?_)
                    · have h608 := own_sT (own_s2 _ B564) q607
                      exact J3 g1 (fun z => h608 z.2.1)
                    · have h609 := own_sF (own_s2 _ B564) q607
                      have h609 := Classical.not_not.mp h609
                      refine Goes.runS X [(.iload 6, 2), (.iload 7, 2)] (S' := [.int (Int32.ofNat x582), .int (Int32.ofNat x579)]) (pc' := 168) rfl ?_
                      refine Goes.if2 X (pc' := 173) (o := 5) (cd := .le) (fun q610 => ?_) (fun q610 => ?_)
                      · have h611 := own_sT (own_s4 _ B578 _ B581) q610
                        exact J3 g1 (fun z => h611 z.2.2)
                      · have h612 := own_sF (own_s4 _ B578 _ B581) q610
                        have h612 := Classical.not_not.mp h612
                        refine Goes.runS X [(.iconst 0, 1)] (S' := [.int (0 : Int32)]) (pc' := 172) rfl ?_
                        refine Goes.retI X (by simp) rfl ?_
                        exact ⟨by rw [ha, own_refA]; (try simp only [hx550, hx563, hx566, hx569, hx580, hx583, hx586, Nat.reduceSub, Nat.reduceAdd]); (repeat' split) <;> first | rfl | (exfalso; omega), rfl⟩
                refine Goes.if2 X (pc' := 153) (o := 19) (cd := .ne) (fun q613 => ?_) (fun q613 => ?_)
                · have h614 := own_sT (own_s2 _ B567) q613
                  exact J2 (fun z => h614 z.1)
                · have h615 := own_sF (own_s2 _ B567) q613
                  have h615 := Classical.not_not.mp h615
                  refine Goes.runS X [(.iload 4, 2)] (S' := [.int (Int32.ofNat x565)]) (pc' := 139) rfl ?_
                  refine Goes.if1 X (pc' := 151) (o := 12) (cd := .eq) (fun q616 => ?_) (fun q616 => ?_)
                  · have h617 := own_sT (own_s0 _ B564) q616
                    refine Goes.runS X [(.iconst 0, 1)] (S' := [.int (0 : Int32)]) (pc' := 152) rfl ?_
                    refine Goes.retI X (by simp) rfl ?_
                    exact ⟨by rw [ha, own_refA]; (try simp only [hx550, hx563, hx566, hx569, hx580, hx583, hx586, Nat.reduceSub, Nat.reduceAdd]); (repeat' split) <;> first | rfl | (exfalso; omega), rfl⟩
                  · have h618 := own_sF (own_s0 _ B564) q616
                    refine Goes.runS X [(.iload 8, 2), (.iload 7, 2), (.iconst 1, 1), (.iadd, 1)] (S' := [.int ((Int32.ofNat x582) + (1 : Int32)), .int (Int32.ofNat x585)]) (pc' := 148) rfl ?_
                    refine Goes.if2 X (pc' := 153) (o := 5) (cd := .eq) (fun q619 => ?_) (fun q619 => ?_)
                    · have h620 := own_sT (own_s3 _ B584 _ B581) q619
                      exact J2 (fun z => z.2.elim h618 (fun y => y h620))
                    · have h621 := own_sF (own_s3 _ B584 _ B581) q619
                      refine Goes.runS X [(.iconst 0, 1)] (S' := [.int (0 : Int32)]) (pc' := 152) rfl ?_
                      refine Goes.retI X (by simp) rfl ?_
                      exact ⟨by rw [ha, own_refA]; (try simp only [hx550, hx563, hx566, hx569, hx580, hx583, hx586, Nat.reduceSub, Nat.reduceAdd]); (repeat' split) <;> first | rfl | (exfalso; omega), rfl⟩
              · have h622 := own_sF (own_s1' _ B567) q576
                have h622 := Classical.not_not.mp h622
                refine Goes.runS X [(.iconst 0, 1)] (S' := [.int (0 : Int32)]) (pc' := 103) rfl ?_
                refine Goes.retI X (by simp) rfl ?_
                exact ⟨by rw [ha, own_refA]; (try simp only [hx550, hx563, hx566, hx569, Nat.reduceSub, Nat.reduceAdd]); (repeat' split) <;> first | rfl | (exfalso; omega), rfl⟩
        · have h623 : own_dig c2 = 0 := by simpa [ifCond.holds] using q558
          have g624 : ¬ own_g [(own_cl c0), (own_cl c1), (own_cl c2)] 2 = 4 := by show ¬ own_cl c2 = 4; rw [own_cl4]; simpa using h623
          refine Goes.runS X [(.iconst 0, 1)] (S' := [.int (0 : Int32)]) (pc' := 58) rfl ?_
          refine Goes.retI X (by simp) rfl ?_
          exact ⟨by rw [ha, own_refA]; (try simp only [hx550, Nat.reduceSub, Nat.reduceAdd]); (repeat' split) <;> first | rfl | (exfalso; omega), rfl⟩
    · have h625 := own_sF (own_s0 _ B548) q551
      refine Goes.runS X [(.iconst 0, 1)] (S' := [.int (0 : Int32)]) (pc' := 36) rfl ?_
      refine Goes.retI X (by simp) rfl ?_
      exact ⟨by rw [ha, own_refA_x (by rw [hx550]; omega)] <;> rfl, rfl⟩
set_option maxRecDepth 65536 in
set_option maxHeartbeats 40000000 in
theorem D_ref4 (l : Launch) (Z : State) (a0 : Array Value) (h0 : Heap) (hw : ∀ d ∈ tables_1, d.before a0 Z = true) (b : Addr) (c0 c1 c2 c3 c4 c5 : Int32) : Does l Z a0 h0 y_5 method_9_code 9 (some .boolean) ({ frames := 4, cells := 0, slots := 0, locals := 58 } : Room) #[.ref b, .int 4] [(b, oC6 c0 c1 c2 c3 c4 c5)] (fun v F => v = some (.int (Int32.ofNat (own_refN 4 [(own_cl c0), (own_cl c1), (own_cl c2), (own_cl c3)]))) ∧ F = [(b, oC6 c0 c1 c2 c3 c4 c5)]) := by
  refine Does.mk #[.val (.ref b), .val (.int (4 : Int32)), .unset, .unset, .unset, .unset, .unset, .unset, .unset] (plainFor_of_name (by decide +kernel)) (fun m => by first | (simp [entryFrame, mkF, argsToLocals, Value.category]; done) | rfl) ?_
  intro p e s m args below meth c h X
  show Goes _ _ _ _ _ _ _ _ _ _ _ _ _ _ _ _ _ _ [(b, oC6 c0 c1 c2 c3 c4 c5)] 0 0 (mkF m 0 #[.val (.ref b), .val (.int (4 : Int32)), .unset, .unset, .unset, .unset, .unset, .unset, .unset] [])
  refine Goes.runS X [(.iload_n 1, 1)] (S' := [.int (4 : Int32)]) (pc' := 1) rfl ?_
  refine Goes.if1 X (pc' := 16) (o := 15) (cd := .le) (fun q => absurd q (by decide)) (fun _ => ?_)
  refine Goes.runS X [(.aload_n 0, 1), (.iconst 0, 1)] (S' := [.int (0 : Int32), .ref b]) (pc' := 6) rfl ?_
  refine Goes.caload X 0 0 rfl (by decide) (by decide) rfl ?_
  refine Goes.runS X [(.bipush 45, 2)] (S' := [.int (45 : Int32), .int c0]) (pc' := 9) rfl ?_
  refine Goes.if2 X (pc' := 16) (o := 7) (cd := .ne) (fun q626 => ?_) (fun q626 => ?_)
  · have h627 : ¬ c0 = 45 := by simpa [if_icmp.holds] using q626
    have ha : own_refN 4 [(own_cl c0), (own_cl c1), (own_cl c2), (own_cl c3)] = own_refA 4 0 [(own_cl c0), (own_cl c1), (own_cl c2), (own_cl c3)] := congrArg (fun z => own_refA 4 z [(own_cl c0), (own_cl c1), (own_cl c2), (own_cl c3)]) (if_neg fun z => h627 ((own_cl0 _).mp z.2))
    refine Goes.runS X [(.iconst 0, 1)] (S' := [.int (0 : Int32)]) (pc' := 17) rfl ?_
    refine Goes.run X [(.istore_n 2, 1), (.iload_n 1, 1), (.iload_n 2, 1)] (L' := #[.val (.ref b), .val (.int (4 : Int32)), .val (.int (0 : Int32)), .unset, .unset, .unset, .unset, .unset, .unset]) (S' := [.int (0 : Int32), .int (4 : Int32)]) (pc' := 20) rfl ?_
    refine Goes.if2 X (pc' := 25) (o := 5) (cd := .gt) (fun _ => ?_) (fun q => absurd q (by decide))
    refine Goes.runS X [(.aload_n 0, 1), (.iconst 0, 1), (.iload_n 1, 1), (.iconst 3, 1)] (S' := [.int (3 : Int32), .int (4 : Int32), .int (0 : Int32), .ref b]) (pc' := 29) rfl ?_
    refine Goes.callS X 0 [0] [] (D_cnt3 l Z a0 h0 hw b c0 c1 c2 c3 c4 c5 0 4 (by decide) (by decide)) (wd hw 77 rfl) (wd hw 78 rfl) (wd hw 4 rfl) (wd hw 79 rfl) pd_y_10 rfl (st := []) rfl rfl (G := []) rfl rfl ?_
    rintro _ _ ⟨rfl, rfl⟩
    obtain ⟨x629, hx630⟩ : ∃ x, own_cntL 0 4 3 [(own_cl c0), (own_cl c1), (own_cl c2), (own_cl c3)] = x := ⟨_, rfl⟩
    rw [show own_cntN 0 4 3 (own_cl c0) (own_cl c1) (own_cl c2) (own_cl c3) (own_cl c4) (own_cl c5) = x629 from hx630]
    show Goes _ _ _ _ _ _ _ _ _ _ _ _ _ _ _ _ _ _ [(b, oC6 c0 c1 c2 c3 c4 c5)] 0 0 (mkF m 32 #[.val (.ref b), .val (.int (4 : Int32)), .val (.int (0 : Int32)), .unset, .unset, .unset, .unset, .unset, .unset] [.int (Int32.ofNat x629)])
    have B628 : x629 ≤ 15 := hx630 ▸ Nat.le_trans (own_cntN_le _ _ _ _ _ _ _ _ _) (by decide)
    refine Goes.if1 X (pc' := 37) (o := 5) (cd := .eq) (fun q631 => ?_) (fun q631 => ?_)
    · have h632 := own_sT (own_s0 _ B628) q631
      refine Goes.runS X [(.aload_n 0, 1), (.iload_n 2, 1)] (S' := [.int (0 : Int32), .ref b]) (pc' := 39) rfl ?_
      refine Goes.caload X 0 0 rfl (by decide) (by decide) rfl ?_
      refine Goes.callS X 0 [] [0] (D_dg l Z a0 h0 hw c0) (wd hw 86 rfl) (wd hw 87 rfl) (wd hw 4 rfl) (wd hw 88 rfl) pd_y_13 rfl (st := []) rfl rfl (G := [(b, oC6 c0 c1 c2 c3 c4 c5)]) rfl rfl ?_
      rintro _ _ ⟨rfl, rfl⟩
      refine Goes.if1 X (pc' := 57) (o := 14) (cd := .eq) (fun q633 => ?_) (fun q633 => ?_)
      · have h634 : own_dig c0 = 0 := by simpa [ifCond.holds] using q633
        have g635 : ¬ own_g [(own_cl c0), (own_cl c1), (own_cl c2), (own_cl c3)] 0 = 4 := by show ¬ own_cl c0 = 4; rw [own_cl4]; simpa using h634
        refine Goes.runS X [(.iconst 0, 1)] (S' := [.int (0 : Int32)]) (pc' := 58) rfl ?_
        refine Goes.retI X (by simp) rfl ?_
        exact ⟨by rw [ha, own_refA]; (try simp only [hx630, Nat.reduceSub, Nat.reduceAdd]); (repeat' split) <;> first | rfl | (exfalso; omega), rfl⟩
      · have h636 : ¬ own_dig c0 = 0 := by simpa [ifCond.holds] using q633
        have g637 : own_g [(own_cl c0), (own_cl c1), (own_cl c2), (own_cl c3)] 0 = 4 := by show own_cl c0 = 4; rw [own_cl4]; simpa using h636
        refine Goes.runS X [(.aload_n 0, 1), (.iload_n 1, 1), (.iconst 1, 1), (.isub, 1)] (S' := [.int (3 : Int32), .ref b]) (pc' := 50) rfl ?_
        refine Goes.caload X 0 3 rfl (by decide) (by decide) rfl ?_
        refine Goes.callS X 0 [] [0] (D_dg l Z a0 h0 hw c3) (wd hw 86 rfl) (wd hw 87 rfl) (wd hw 4 rfl) (wd hw 88 rfl) pd_y_13 rfl (st := []) rfl rfl (G := [(b, oC6 c0 c1 c2 c3 c4 c5)]) rfl rfl ?_
        rintro _ _ ⟨rfl, rfl⟩
        refine Goes.if1 X (pc' := 59) (o := 5) (cd := .ne) (fun q638 => ?_) (fun q638 => ?_)
        · have h639 : ¬ own_dig c3 = 0 := by simpa [ifCond.holds] using q638
          have g640 : own_g [(own_cl c0), (own_cl c1), (own_cl c2), (own_cl c3)] 3 = 4 := by show own_cl c3 = 4; rw [own_cl4]; simpa using h639
          refine Goes.runS X [(.aload_n 0, 1), (.iconst 0, 1), (.iload_n 1, 1), (.iconst 0, 1)] (S' := [.int (0 : Int32), .int (4 : Int32), .int (0 : Int32), .ref b]) (pc' := 63) rfl ?_
          refine Goes.callS X 0 [0] [] (D_cnt0 l Z a0 h0 hw b c0 c1 c2 c3 c4 c5 0 4 (by decide) (by decide)) (wd hw 77 rfl) (wd hw 78 rfl) (wd hw 4 rfl) (wd hw 79 rfl) pd_y_10 rfl (st := []) rfl rfl (G := []) rfl rfl ?_
          rintro _ _ ⟨rfl, rfl⟩
          obtain ⟨x642, hx643⟩ : ∃ x, own_cntL 0 4 0 [(own_cl c0), (own_cl c1), (own_cl c2), (own_cl c3)] = x := ⟨_, rfl⟩
          rw [show own_cntN 0 4 0 (own_cl c0) (own_cl c1) (own_cl c2) (own_cl c3) (own_cl c4) (own_cl c5) = x642 from hx643]
          show Goes _ _ _ _ _ _ _ _ _ _ _ _ _ _ _ _ _ _ [(b, oC6 c0 c1 c2 c3 c4 c5)] 0 0 (mkF m 66 #[.val (.ref b), .val (.int (4 : Int32)), .val (.int (0 : Int32)), .unset, .unset, .unset, .unset, .unset, .unset] [.int (Int32.ofNat x642)])
          have B641 : x642 ≤ 15 := hx643 ▸ Nat.le_trans (own_cntN_le _ _ _ _ _ _ _ _ _) (by decide)
          refine Goes.run X [(.istore_n 3, 1), (.aload_n 0, 1), (.iconst 0, 1), (.iload_n 1, 1), (.iconst 1, 1)] (L' := #[.val (.ref b), .val (.int (4 : Int32)), .val (.int (0 : Int32)), .val (.int (Int32.ofNat x642)), .unset, .unset, .unset, .unset, .unset]) (S' := [.int (1 : Int32), .int (4 : Int32), .int (0 : Int32), .ref b]) (pc' := 71) rfl ?_
          refine Goes.callS X 0 [0] [] (D_cnt1 l Z a0 h0 hw b c0 c1 c2 c3 c4 c5 0 4 (by decide) (by decide)) (wd hw 77 rfl) (wd hw 78 rfl) (wd hw 4 rfl) (wd hw 79 rfl) pd_y_10 rfl (st := []) rfl rfl (G := []) rfl rfl ?_
          rintro _ _ ⟨rfl, rfl⟩
          obtain ⟨x645, hx646⟩ : ∃ x, own_cntL 0 4 1 [(own_cl c0), (own_cl c1), (own_cl c2), (own_cl c3)] = x := ⟨_, rfl⟩
          rw [show own_cntN 0 4 1 (own_cl c0) (own_cl c1) (own_cl c2) (own_cl c3) (own_cl c4) (own_cl c5) = x645 from hx646]
          show Goes _ _ _ _ _ _ _ _ _ _ _ _ _ _ _ _ _ _ [(b, oC6 c0 c1 c2 c3 c4 c5)] 0 0 (mkF m 74 #[.val (.ref b), .val (.int (4 : Int32)), .val (.int (0 : Int32)), .val (.int (Int32.ofNat x642)), .unset, .unset, .unset, .unset, .unset] [.int (Int32.ofNat x645)])
          have B644 : x645 ≤ 15 := hx646 ▸ Nat.le_trans (own_cntN_le _ _ _ _ _ _ _ _ _) (by decide)
          refine Goes.run X [(.istore 4, 2), (.aload_n 0, 1), (.iload_n 2, 1), (.iload_n 1, 1), (.iconst 2, 1)] (L' := #[.val (.ref b), .val (.int (4 : Int32)), .val (.int (0 : Int32)), .val (.int (Int32.ofNat x642)), .val (.int (Int32.ofNat x645)), .unset, .unset, .unset, .unset]) (S' := [.int (2 : Int32), .int (4 : Int32), .int (0 : Int32), .ref b]) (pc' := 80) rfl ?_
          refine Goes.callS X 0 [0] [] (D_cnt2 l Z a0 h0 hw b c0 c1 c2 c3 c4 c5 0 4 (by decide) (by decide)) (wd hw 77 rfl) (wd hw 78 rfl) (wd hw 4 rfl) (wd hw 79 rfl) pd_y_10 rfl (st := []) rfl rfl (G := []) rfl rfl ?_
          rintro _ _ ⟨rfl, rfl⟩
          obtain ⟨x648, hx649⟩ : ∃ x, own_cntL 0 4 2 [(own_cl c0), (own_cl c1), (own_cl c2), (own_cl c3)] = x := ⟨_, rfl⟩
          rw [show own_cntN 0 4 2 (own_cl c0) (own_cl c1) (own_cl c2) (own_cl c3) (own_cl c4) (own_cl c5) = x648 from hx649]
          show Goes _ _ _ _ _ _ _ _ _ _ _ _ _ _ _ _ _ _ [(b, oC6 c0 c1 c2 c3 c4 c5)] 0 0 (mkF m 83 #[.val (.ref b), .val (.int (4 : Int32)), .val (.int (0 : Int32)), .val (.int (Int32.ofNat x642)), .val (.int (Int32.ofNat x645)), .unset, .unset, .unset, .unset] [.int (Int32.ofNat x648)])
          have B647 : x648 ≤ 15 := hx649 ▸ Nat.le_trans (own_cntN_le _ _ _ _ _ _ _ _ _) (by decide)
          refine Goes.run X [(.istore 5, 2), (.iload_n 3, 1), (.iconst 1, 1)] (L' := #[.val (.ref b), .val (.int (4 : Int32)), .val (.int (0 : Int32)), .val (.int (Int32.ofNat x642)), .val (.int (Int32.ofNat x645)), .val (.int (Int32.ofNat x648)), .unset, .unset, .unset]) (S' := [.int (1 : Int32), .int (Int32.ofNat x642)]) (pc' := 87) rfl ?_
          refine Goes.if2 X (pc' := 102) (o := 15) (cd := .gt) (fun q650 => ?_) (fun q650 => ?_)
          · have h651 := own_sT (own_s1 _ B641) q650
            refine Goes.runS X [(.iconst 0, 1)] (S' := [.int (0 : Int32)]) (pc' := 103) rfl ?_
            refine Goes.retI X (by simp) rfl ?_
            exact ⟨by rw [ha, own_refA]; (try simp only [hx630, hx643, hx646, hx649, Nat.reduceSub, Nat.reduceAdd]); (repeat' split) <;> first | rfl | (exfalso; omega), rfl⟩
          · have h652 := own_sF (own_s1 _ B641) q650
            refine Goes.runS X [(.iload 4, 2), (.iconst 1, 1)] (S' := [.int (1 : Int32), .int (Int32.ofNat x645)]) (pc' := 93) rfl ?_
            refine Goes.if2 X (pc' := 102) (o := 9) (cd := .gt) (fun q653 => ?_) (fun q653 => ?_)
            · have h654 := own_sT (own_s1 _ B644) q653
              refine Goes.runS X [(.iconst 0, 1)] (S' := [.int (0 : Int32)]) (pc' := 103) rfl ?_
              refine Goes.retI X (by simp) rfl ?_
              exact ⟨by rw [ha, own_refA]; (try simp only [hx630, hx643, hx646, hx649, Nat.reduceSub, Nat.reduceAdd]); (repeat' split) <;> first | rfl | (exfalso; omega), rfl⟩
            · have h655 := own_sF (own_s1 _ B644) q653
              refine Goes.runS X [(.iload 5, 2), (.iconst 1, 1)] (S' := [.int (1 : Int32), .int (Int32.ofNat x648)]) (pc' := 99) rfl ?_
              refine Goes.if2 X (pc' := 104) (o := 5) (cd := .le) (fun q656 => ?_) (fun q656 => ?_)
              · have h657 := own_sT (own_s1' _ B647) q656
                refine Goes.runS X [(.aload_n 0, 1), (.iconst 0, 1), (.iload_n 1, 1), (.iconst 0, 1)] (S' := [.int (0 : Int32), .int (4 : Int32), .int (0 : Int32), .ref b]) (pc' := 108) rfl ?_
                refine Goes.callS X 0 [0] [] (D_pos0 l Z a0 h0 hw b c0 c1 c2 c3 c4 c5 0 4 (by decide) (by decide)) (wd hw 118 rfl) (wd hw 119 rfl) (wd hw 4 rfl) (wd hw 120 rfl) pd_y_20 rfl (st := []) rfl rfl (G := []) rfl rfl ?_
                rintro _ _ ⟨rfl, rfl⟩
                obtain ⟨x659, hx660⟩ : ∃ x, own_posL 0 4 0 [(own_cl c0), (own_cl c1), (own_cl c2), (own_cl c3)] = x := ⟨_, rfl⟩
                rw [show own_posN 0 4 0 (own_cl c1) (own_cl c2) (own_cl c3) (own_cl c4) (own_cl c5) = x659 from hx660]
                show Goes _ _ _ _ _ _ _ _ _ _ _ _ _ _ _ _ _ _ [(b, oC6 c0 c1 c2 c3 c4 c5)] 0 0 (mkF m 111 #[.val (.ref b), .val (.int (4 : Int32)), .val (.int (0 : Int32)), .val (.int (Int32.ofNat x642)), .val (.int (Int32.ofNat x645)), .val (.int (Int32.ofNat x648)), .unset, .unset, .unset] [.int (Int32.ofNat x659)])
                have B658 : x659 ≤ 15 := hx660 ▸ own_posN_le _ _ _ _ _ _ _ _
                refine Goes.run X [(.istore 6, 2), (.aload_n 0, 1), (.iconst 0, 1), (.iload_n 1, 1), (.iconst 1, 1)] (L' := #[.val (.ref b), .val (.int (4 : Int32)), .val (.int (0 : Int32)), .val (.int (Int32.ofNat x642)), .val (.int (Int32.ofNat x645)), .val (.int (Int32.ofNat x648)), .val (.int (Int32.ofNat x659)), .unset, .unset]) (S' := [.int (1 : Int32), .int (4 : Int32), .int (0 : Int32), .ref b]) (pc' := 117) rfl ?_
                refine Goes.callS X 0 [0] [] (D_pos1 l Z a0 h0 hw b c0 c1 c2 c3 c4 c5 0 4 (by decide) (by decide)) (wd hw 118 rfl) (wd hw 119 rfl) (wd hw 4 rfl) (wd hw 120 rfl) pd_y_20 rfl (st := []) rfl rfl (G := []) rfl rfl ?_
                rintro _ _ ⟨rfl, rfl⟩
                obtain ⟨x662, hx663⟩ : ∃ x, own_posL 0 4 1 [(own_cl c0), (own_cl c1), (own_cl c2), (own_cl c3)] = x := ⟨_, rfl⟩
                rw [show own_posN 0 4 1 (own_cl c1) (own_cl c2) (own_cl c3) (own_cl c4) (own_cl c5) = x662 from hx663]
                show Goes _ _ _ _ _ _ _ _ _ _ _ _ _ _ _ _ _ _ [(b, oC6 c0 c1 c2 c3 c4 c5)] 0 0 (mkF m 120 #[.val (.ref b), .val (.int (4 : Int32)), .val (.int (0 : Int32)), .val (.int (Int32.ofNat x642)), .val (.int (Int32.ofNat x645)), .val (.int (Int32.ofNat x648)), .val (.int (Int32.ofNat x659)), .unset, .unset] [.int (Int32.ofNat x662)])
                have B661 : x662 ≤ 15 := hx663 ▸ own_posN_le _ _ _ _ _ _ _ _
                refine Goes.run X [(.istore 7, 2), (.aload_n 0, 1), (.iload_n 2, 1), (.iload_n 1, 1), (.iconst 2, 1)] (L' := #[.val (.ref b), .val (.int (4 : Int32)), .val (.int (0 : Int32)), .val (.int (Int32.ofNat x642)), .val (.int (Int32.ofNat x645)), .val (.int (Int32.ofNat x648)), .val (.int (Int32.ofNat x659)), .val (.int (Int32.ofNat x662)), .unset]) (S' := [.int (2 : Int32), .int (4 : Int32), .int (0 : Int32), .ref b]) (pc' := 126) rfl ?_
                refine Goes.callS X 0 [0] [] (D_pos2 l Z a0 h0 hw b c0 c1 c2 c3 c4 c5 0 4 (by decide) (by decide)) (wd hw 118 rfl) (wd hw 119 rfl) (wd hw 4 rfl) (wd hw 120 rfl) pd_y_20 rfl (st := []) rfl rfl (G := []) rfl rfl ?_
                rintro _ _ ⟨rfl, rfl⟩
                obtain ⟨x665, hx666⟩ : ∃ x, own_posL 0 4 2 [(own_cl c0), (own_cl c1), (own_cl c2), (own_cl c3)] = x := ⟨_, rfl⟩
                rw [show own_posN 0 4 2 (own_cl c1) (own_cl c2) (own_cl c3) (own_cl c4) (own_cl c5) = x665 from hx666]
                show Goes _ _ _ _ _ _ _ _ _ _ _ _ _ _ _ _ _ _ [(b, oC6 c0 c1 c2 c3 c4 c5)] 0 0 (mkF m 129 #[.val (.ref b), .val (.int (4 : Int32)), .val (.int (0 : Int32)), .val (.int (Int32.ofNat x642)), .val (.int (Int32.ofNat x645)), .val (.int (Int32.ofNat x648)), .val (.int (Int32.ofNat x659)), .val (.int (Int32.ofNat x662)), .unset] [.int (Int32.ofNat x665)])
                have B664 : x665 ≤ 15 := hx666 ▸ own_posN_le _ _ _ _ _ _ _ _
                refine Goes.run X [(.istore 8, 2), (.iload 5, 2), (.iconst 1, 1)] (L' := #[.val (.ref b), .val (.int (4 : Int32)), .val (.int (0 : Int32)), .val (.int (Int32.ofNat x642)), .val (.int (Int32.ofNat x645)), .val (.int (Int32.ofNat x648)), .val (.int (Int32.ofNat x659)), .val (.int (Int32.ofNat x662)), .val (.int (Int32.ofNat x665))]) (S' := [.int (1 : Int32), .int (Int32.ofNat x648)]) (pc' := 134) rfl ?_
                have J3 : ∀ (g1 : ¬ (x648 = 1 ∧ (x645 = 0 ∨ ¬ x665 = x662 + 1))) (g2 : ¬ (x642 = 1 ∧ x645 = 1 ∧ x662 < x659)), Goes p l e ({ frames := 4, cells := 0, slots := 0, locals := 58 } : Room) s m args below meth c Z a0 h0 h ([(b, oC6 c0 c1 c2 c3 c4 c5)].map (·.1)) ({ frames := 4, cells := 0, slots := 0, locals := 58 } : Room).cells ({ frames := 4, cells := 0, slots := 0, locals := 58 } : Room).slots (fun v F => v = some (.int (Int32.ofNat (own_refN 4 [(own_cl c0), (own_cl c1), (own_cl c2), (own_cl c3)]))) ∧ F = [(b, oC6 c0 c1 c2 c3 c4 c5)]) [(b, oC6 c0 c1 c2 c3 c4 c5)] 0 0 (mkF m 173 #[.val (.ref b), .val (.int (4 : Int32)), .val (.int (0 : Int32)), .val (.int (Int32.ofNat x642)), .val (.int (Int32.ofNat x645)), .val (.int (Int32.ofNat x648)), .val (.int (Int32.ofNat x659)), .val (.int (Int32.ofNat x662)), .val (.int (Int32.ofNat x665))] []) := by
                  intro g1 g2
                  refine Goes.runS X [(.iload_n 3, 1), (.iconst 1, 1)] (S' := [.int (1 : Int32), .int (Int32.ofNat x642)]) (pc' := 175) rfl ?_
                  refine Goes.if2 X (pc' := 200) (o := 25) (cd := .ne) (fun q667 => ?_) (fun q667 => ?_)
                  · have h668 := own_sT (own_s2 _ B641) q667
                    refine Goes.runS X [(.iconst 1, 1)] (S' := [.int (1 : Int32)]) (pc' := 201) rfl ?_
                    refine Goes.retI X (by simp) rfl ?_
                    exact ⟨by rw [ha, own_refA]; (try simp only [hx630, hx643, hx646, hx649, hx660, hx663, hx666, Nat.reduceSub, Nat.reduceAdd]); (repeat' split) <;> first | rfl | (exfalso; omega), rfl⟩
                  · have h669 := own_sF (own_s2 _ B641) q667
                    have h669 := Classical.not_not.mp h669
                    refine Goes.runS X [(.iload 6, 2), (.iconst 1, 1), (.iadd, 1), (.iload_n 1, 1)] (S' := [.int (4 : Int32), .int ((Int32.ofNat x659) + (1 : Int32))]) (pc' := 183) rfl ?_
                    refine Goes.if2 X (pc' := 198) (o := 15) (cd := .ge) (fun q670 => ?_) (fun q670 => ?_)
                    · have h671 := own_sT (own_s5 4 (by decide) _ B658) q670
                      refine Goes.runS X [(.iconst 0, 1)] (S' := [.int (0 : Int32)]) (pc' := 199) rfl ?_
                      refine Goes.retI X (by simp) rfl ?_
                      exact ⟨by rw [ha, own_refA]; (try simp only [hx630, hx643, hx646, hx649, hx660, hx663, hx666, Nat.reduceSub, Nat.reduceAdd]); (repeat' split) <;> first | rfl | (exfalso; omega), rfl⟩
                    · have h672 := own_sF (own_s5 4 (by decide) _ B658) q670
                      have h672 := Classical.not_not.mp h672
                      refine Goes.runS X [(.aload_n 0, 1), (.iload 6, 2), (.iconst 1, 1), (.iadd, 1)] (S' := [.int ((Int32.ofNat x659) + (1 : Int32)), .ref b]) (pc' := 191) rfl ?_
                      have z673 : x659 = 0 ∨ x659 = 1 ∨ x659 = 2 := by omega
                      rcases z673 with z673 | z673 | z673
                      · rw [z673]
                        show Goes _ _ _ _ _ _ _ _ _ _ _ _ _ _ _ _ _ _ [(b, oC6 c0 c1 c2 c3 c4 c5)] 0 0 (mkF m 191 #[.val (.ref b), .val (.int (4 : Int32)), .val (.int (0 : Int32)), .val (.int (Int32.ofNat x642)), .val (.int (Int32.ofNat x645)), .val (.int (Int32.ofNat x648)), .val (.int (Int32.ofNat 0)), .val (.int (Int32.ofNat x662)), .val (.int (Int32.ofNat x665))] [.int ((Int32.ofNat 0) + (1 : Int32)), .ref b])
                        refine Goes.caload X 0 1 rfl (by decide) (by decide) rfl ?_
                        refine Goes.callS X 0 [] [0] (D_dg l Z a0 h0 hw c1) (wd hw 86 rfl) (wd hw 87 rfl) (wd hw 4 rfl) (wd hw 88 rfl) pd_y_13 rfl (st := []) rfl rfl (G := [(b, oC6 c0 c1 c2 c3 c4 c5)]) rfl rfl ?_
                        rintro _ _ ⟨rfl, rfl⟩
                        refine Goes.if1 X (pc' := 200) (o := 5) (cd := .ne) (fun q674 => ?_) (fun q674 => ?_)
                        · have h675 : ¬ own_dig c1 = 0 := by simpa [ifCond.holds] using q674
                          have g676 : own_g [(own_cl c0), (own_cl c1), (own_cl c2), (own_cl c3)] 1 = 4 := by show own_cl c1 = 4; rw [own_cl4]; simpa using h675
                          refine Goes.runS X [(.iconst 1, 1)] (S' := [.int (1 : Int32)]) (pc' := 201) rfl ?_
                          refine Goes.retI X (by simp) rfl ?_
                          exact ⟨by rw [ha, own_refA]; (try simp only [hx630, hx643, hx646, hx649, hx660, hx663, hx666, z673, Nat.reduceSub, Nat.reduceAdd]); (repeat' split) <;> first | rfl | (exfalso; omega), rfl⟩
                        · have h677 : own_dig c1 = 0 := by simpa [ifCond.holds] using q674
                          have g678 : ¬ own_g [(own_cl c0), (own_cl c1), (own_cl c2), (own_cl c3)] 1 = 4 := by show ¬ own_cl c1 = 4; rw [own_cl4]; simpa using h677
                          refine Goes.runS X [(.iconst 0, 1)] (S' := [.int (0 : Int32)]) (pc' := 199) rfl ?_
                          refine Goes.retI X (by simp) rfl ?_
                          exact ⟨by rw [ha, own_refA]; (try simp only [hx630, hx643, hx646, hx649, hx660, hx663, hx666, z673, Nat.reduceSub, Nat.reduceAdd]); (repeat' split) <;> first | rfl | (exfalso; omega), rfl⟩
                      · rw [z673]
                        show Goes _ _ _ _ _ _ _ _ _ _ _ _ _ _ _ _ _ _ [(b, oC6 c0 c1 c2 c3 c4 c5)] 0 0 (mkF m 191 #[.val (.ref b), .val (.int (4 : Int32)), .val (.int (0 : Int32)), .val (.int (Int32.ofNat x642)), .val (.int (Int32.ofNat x645)), .val (.int (Int32.ofNat x648)), .val (.int (Int32.ofNat 1)), .val (.int (Int32.ofNat x662)), .val (.int (Int32.ofNat x665))] [.int ((Int32.ofNat 1) + (1 : Int32)), .ref b])
                        refine Goes.caload X 0 2 rfl (by decide) (by decide) rfl ?_
                        refine Goes.callS X 0 [] [0] (D_dg l Z a0 h0 hw c2) (wd hw 86 rfl) (wd hw 87 rfl) (wd hw 4 rfl) (wd hw 88 rfl) pd_y_13 rfl (st := []) rfl rfl (G := [(b, oC6 c0 c1 c2 c3 c4 c5)]) rfl rfl ?_
                        rintro _ _ ⟨rfl, rfl⟩
                        refine Goes.if1 X (pc' := 200) (o := 5) (cd := .ne) (fun q679 => ?_) (fun q679 => ?_)
                        · have h680 : ¬ own_dig c2 = 0 := by simpa [ifCond.holds] using q679
                          have g681 : own_g [(own_cl c0), (own_cl c1), (own_cl c2), (own_cl c3)] 2 = 4 := by show own_cl c2 = 4; rw [own_cl4]; simpa using h680
                          refine Goes.runS X [(.iconst 1, 1)] (S' := [.int (1 : Int32)]) (pc' := 201) rfl ?_
                          refine Goes.retI X (by simp) rfl ?_
                          exact ⟨by rw [ha, own_refA]; (try simp only [hx630, hx643, hx646, hx649, hx660, hx663, hx666, z673, Nat.reduceSub, Nat.reduceAdd]); (repeat' split) <;> first | rfl | (exfalso; omega), rfl⟩
                        · have h682 : own_dig c2 = 0 := by simpa [ifCond.holds] using q679
                          have g683 : ¬ own_g [(own_cl c0), (own_cl c1), (own_cl c2), (own_cl c3)] 2 = 4 := by show ¬ own_cl c2 = 4; rw [own_cl4]; simpa using h682
                          refine Goes.runS X [(.iconst 0, 1)] (S' := [.int (0 : Int32)]) (pc' := 199) rfl ?_
                          refine Goes.retI X (by simp) rfl ?_
                          exact ⟨by rw [ha, own_refA]; (try simp only [hx630, hx643, hx646, hx649, hx660, hx663, hx666, z673, Nat.reduceSub, Nat.reduceAdd]); (repeat' split) <;> first | rfl | (exfalso; omega), rfl⟩
                      · rw [z673]
                        show Goes _ _ _ _ _ _ _ _ _ _ _ _ _ _ _ _ _ _ [(b, oC6 c0 c1 c2 c3 c4 c5)] 0 0 (mkF m 191 #[.val (.ref b), .val (.int (4 : Int32)), .val (.int (0 : Int32)), .val (.int (Int32.ofNat x642)), .val (.int (Int32.ofNat x645)), .val (.int (Int32.ofNat x648)), .val (.int (Int32.ofNat 2)), .val (.int (Int32.ofNat x662)), .val (.int (Int32.ofNat x665))] [.int ((Int32.ofNat 2) + (1 : Int32)), .ref b])
                        refine Goes.caload X 0 3 rfl (by decide) (by decide) rfl ?_
                        refine Goes.callS X 0 [] [0] (D_dg l Z a0 h0 hw c3) (wd hw 86 rfl) (wd hw 87 rfl) (wd hw 4 rfl) (wd hw 88 rfl) pd_y_13 rfl (st := []) rfl rfl (G := [(b, oC6 c0 c1 c2 c3 c4 c5)]) rfl rfl ?_
                        rintro _ _ ⟨rfl, rfl⟩
                        refine Goes.if1 X (pc' := 200) (o := 5) (cd := .ne) (fun q684 => ?_) (fun q684 => ?_)
                        · have h685 : ¬ own_dig c3 = 0 := by simpa [ifCond.holds] using q684
                          have g686 : own_g [(own_cl c0), (own_cl c1), (own_cl c2), (own_cl c3)] 3 = 4 := by show own_cl c3 = 4; rw [own_cl4]; simpa using h685
                          refine Goes.runS X [(.iconst 1, 1)] (S' := [.int (1 : Int32)]) (pc' := 201) rfl ?_
                          refine Goes.retI X (by simp) rfl ?_
                          exact ⟨by rw [ha, own_refA]; (try simp only [hx630, hx643, hx646, hx649, hx660, hx663, hx666, z673, Nat.reduceSub, Nat.reduceAdd]); (repeat' split) <;> first | rfl | (exfalso; omega), rfl⟩
                        · have h687 : own_dig c3 = 0 := by simpa [ifCond.holds] using q684
                          have g688 : ¬ own_g [(own_cl c0), (own_cl c1), (own_cl c2), (own_cl c3)] 3 = 4 := by show ¬ own_cl c3 = 4; rw [own_cl4]; simpa using h687
                          refine Goes.runS X [(.iconst 0, 1)] (S' := [.int (0 : Int32)]) (pc' := 199) rfl ?_
                          refine Goes.retI X (by simp) rfl ?_
                          exact ⟨by rw [ha, own_refA]; (try simp only [hx630, hx643, hx646, hx649, hx660, hx663, hx666, z673, Nat.reduceSub, Nat.reduceAdd]); (repeat' split) <;> first | rfl | (exfalso; omega), rfl⟩
                have J2 : ∀ (g1 : ¬ (x648 = 1 ∧ (x645 = 0 ∨ ¬ x665 = x662 + 1))), Goes p l e ({ frames := 4, cells := 0, slots := 0, locals := 58 } : Room) s m args below meth c Z a0 h0 h ([(b, oC6 c0 c1 c2 c3 c4 c5)].map (·.1)) ({ frames := 4, cells := 0, slots := 0, locals := 58 } : Room).cells ({ frames := 4, cells := 0, slots := 0, locals := 58 } : Room).slots (fun v F => v = some (.int (Int32.ofNat (own_refN 4 [(own_cl c0), (own_cl c1), (own_cl c2), (own_cl c3)]))) ∧ F = [(b, oC6 c0 c1 c2 c3 c4 c5)]) [(b, oC6 c0 c1 c2 c3 c4 c5)] 0 0 (mkF m 153 #[.val (.ref b), .val (.int (4 : Int32)), .val (.int (0 : Int32)), .val (.int (Int32.ofNat x642)), .val (.int (Int32.ofNat x645)), .val (.int (Int32.ofNat x648)), .val (.int (Int32.ofNat x659)), .val (.int (Int32.ofNat x662)), .val (.int (Int32.ofNat x665))] []) := by
                  intro g1
                  refine Goes.runS X [(.iload_n 3, 1), (.iconst 1, 1)] (S' := [.int (1 : Int32), .int (Int32.ofNat x642)]) (pc' := 155) rfl ?_
                  refine Goes.if2 X (pc' := 173) (o := 18) (cd := .ne) (fun q689 => ?_) (fun q689 => ?_)
                  · have h690 := own_sT (own_s2 _ B641) q689
                    exact J3 g1 (fun z => h690 z.1)
                  · have h691 := own_sF (own_s2 _ B641) q689
                    have h691 := Classical.not_not.mp h691
                    refine Goes.runS X [(.iload 4, 2), (.iconst 1, 1)] (S' := [.int (1 : Int32), .int (Int32.ofNat x645)]) (pc' := 161) rfl ?_
                    refine Goes.if2 X (pc' := 173) (o := 12) (cd := .ne) (fun q692 => ?_) (fun q692 => ?_)
                    · have h693 := own_sT (own_s2 _ B644) q692
                      exact J3 g1 (fun z => h693 z.2.1)
                    · have h694 := own_sF (own_s2 _ B644) q692
                      have h694 := Classical.not_not.mp h694
                      refine Goes.runS X [(.iload 6, 2), (.iload 7, 2)] (S' := [.int (Int32.ofNat x662), .int (Int32.ofNat x659)]) (pc' := 168) rfl ?_
                      refine Goes.if2 X (pc' := 173) (o := 5) (cd := .le) (fun q695 => ?_) (fun q695 => ?_)
                      · have h696 := own_sT (own_s4 _ B658 _ B661) q695
                        exact J3 g1 (fun z => h696 z.2.2)
                      · have h697 := own_sF (own_s4 _ B658 _ B661) q695
                        have h697 := Classical.not_not.mp h697
                        refine Goes.runS X [(.iconst 0, 1)] (S' := [.int (0 : Int32)]) (pc' := 172) rfl ?_
                        refine Goes.retI X (by simp) rfl ?_
                        exact ⟨by rw [ha, own_refA]; (try simp only [hx630, hx643, hx646, hx649, hx660, hx663, hx666, Nat.reduceSub, Nat.reduceAdd]); (repeat' split) <;> first | rfl | (exfalso; omega), rfl⟩
                refine Goes.if2 X (pc' := 153) (o := 19) (cd := .ne) (fun q698 => ?_) (fun q698 => ?_)
                · have h699 := own_sT (own_s2 _ B647) q698
                  exact J2 (fun z => h699 z.1)
                · have h700 := own_sF (own_s2 _ B647) q698
                  have h700 := Classical.not_not.mp h700
                  refine Goes.runS X [(.iload 4, 2)] (S' := [.int (Int32.ofNat x645)]) (pc' := 139) rfl ?_
                  refine Goes.if1 X (pc' := 151) (o := 12) (cd := .eq) (fun q701 => ?_) (fun q701 => ?_)
                  · have h702 := own_sT (own_s0 _ B644) q701
                    refine Goes.runS X [(.iconst 0, 1)] (S' := [.int (0 : Int32)]) (pc' := 152) rfl ?_
                    refine Goes.retI X (by simp) rfl ?_
                    exact ⟨by rw [ha, own_refA]; (try simp only [hx630, hx643, hx646, hx649, hx660, hx663, hx666, Nat.reduceSub, Nat.reduceAdd]); (repeat' split) <;> first | rfl | (exfalso; omega), rfl⟩
                  · have h703 := own_sF (own_s0 _ B644) q701
                    refine Goes.runS X [(.iload 8, 2), (.iload 7, 2), (.iconst 1, 1), (.iadd, 1)] (S' := [.int ((Int32.ofNat x662) + (1 : Int32)), .int (Int32.ofNat x665)]) (pc' := 148) rfl ?_
                    refine Goes.if2 X (pc' := 153) (o := 5) (cd := .eq) (fun q704 => ?_) (fun q704 => ?_)
                    · have h705 := own_sT (own_s3 _ B664 _ B661) q704
                      exact J2 (fun z => z.2.elim h703 (fun y => y h705))
                    · have h706 := own_sF (own_s3 _ B664 _ B661) q704
                      refine Goes.runS X [(.iconst 0, 1)] (S' := [.int (0 : Int32)]) (pc' := 152) rfl ?_
                      refine Goes.retI X (by simp) rfl ?_
                      exact ⟨by rw [ha, own_refA]; (try simp only [hx630, hx643, hx646, hx649, hx660, hx663, hx666, Nat.reduceSub, Nat.reduceAdd]); (repeat' split) <;> first | rfl | (exfalso; omega), rfl⟩
              · have h707 := own_sF (own_s1' _ B647) q656
                have h707 := Classical.not_not.mp h707
                refine Goes.runS X [(.iconst 0, 1)] (S' := [.int (0 : Int32)]) (pc' := 103) rfl ?_
                refine Goes.retI X (by simp) rfl ?_
                exact ⟨by rw [ha, own_refA]; (try simp only [hx630, hx643, hx646, hx649, Nat.reduceSub, Nat.reduceAdd]); (repeat' split) <;> first | rfl | (exfalso; omega), rfl⟩
        · have h708 : own_dig c3 = 0 := by simpa [ifCond.holds] using q638
          have g709 : ¬ own_g [(own_cl c0), (own_cl c1), (own_cl c2), (own_cl c3)] 3 = 4 := by show ¬ own_cl c3 = 4; rw [own_cl4]; simpa using h708
          refine Goes.runS X [(.iconst 0, 1)] (S' := [.int (0 : Int32)]) (pc' := 58) rfl ?_
          refine Goes.retI X (by simp) rfl ?_
          exact ⟨by rw [ha, own_refA]; (try simp only [hx630, Nat.reduceSub, Nat.reduceAdd]); (repeat' split) <;> first | rfl | (exfalso; omega), rfl⟩
    · have h710 := own_sF (own_s0 _ B628) q631
      refine Goes.runS X [(.iconst 0, 1)] (S' := [.int (0 : Int32)]) (pc' := 36) rfl ?_
      refine Goes.retI X (by simp) rfl ?_
      exact ⟨by rw [ha, own_refA_x (by rw [hx630]; omega)] <;> rfl, rfl⟩
  · have h711 : c0 = 45 := by simpa [if_icmp.holds] using q626
    have ha : own_refN 4 [(own_cl c0), (own_cl c1), (own_cl c2), (own_cl c3)] = own_refA 4 1 [(own_cl c0), (own_cl c1), (own_cl c2), (own_cl c3)] := congrArg (fun z => own_refA 4 z [(own_cl c0), (own_cl c1), (own_cl c2), (own_cl c3)]) (if_pos ⟨by decide, (own_cl0 _).mpr h711⟩)
    refine Goes.runS X [(.iconst 1, 1)] (S' := [.int (1 : Int32)]) (pc' := 13) rfl ?_
    refine Goes.goto X (o := 4) (pc' := 17) ?_
    refine Goes.run X [(.istore_n 2, 1), (.iload_n 1, 1), (.iload_n 2, 1)] (L' := #[.val (.ref b), .val (.int (4 : Int32)), .val (.int (1 : Int32)), .unset, .unset, .unset, .unset, .unset, .unset]) (S' := [.int (1 : Int32), .int (4 : Int32)]) (pc' := 20) rfl ?_
    refine Goes.if2 X (pc' := 25) (o := 5) (cd := .gt) (fun _ => ?_) (fun q => absurd q (by decide))
    refine Goes.runS X [(.aload_n 0, 1), (.iconst 0, 1), (.iload_n 1, 1), (.iconst 3, 1)] (S' := [.int (3 : Int32), .int (4 : Int32), .int (0 : Int32), .ref b]) (pc' := 29) rfl ?_
    refine Goes.callS X 0 [0] [] (D_cnt3 l Z a0 h0 hw b c0 c1 c2 c3 c4 c5 0 4 (by decide) (by decide)) (wd hw 77 rfl) (wd hw 78 rfl) (wd hw 4 rfl) (wd hw 79 rfl) pd_y_10 rfl (st := []) rfl rfl (G := []) rfl rfl ?_
    rintro _ _ ⟨rfl, rfl⟩
    obtain ⟨x713, hx714⟩ : ∃ x, own_cntL 0 4 3 [(own_cl c0), (own_cl c1), (own_cl c2), (own_cl c3)] = x := ⟨_, rfl⟩
    rw [show own_cntN 0 4 3 (own_cl c0) (own_cl c1) (own_cl c2) (own_cl c3) (own_cl c4) (own_cl c5) = x713 from hx714]
    show Goes _ _ _ _ _ _ _ _ _ _ _ _ _ _ _ _ _ _ [(b, oC6 c0 c1 c2 c3 c4 c5)] 0 0 (mkF m 32 #[.val (.ref b), .val (.int (4 : Int32)), .val (.int (1 : Int32)), .unset, .unset, .unset, .unset, .unset, .unset] [.int (Int32.ofNat x713)])
    have B712 : x713 ≤ 15 := hx714 ▸ Nat.le_trans (own_cntN_le _ _ _ _ _ _ _ _ _) (by decide)
    refine Goes.if1 X (pc' := 37) (o := 5) (cd := .eq) (fun q715 => ?_) (fun q715 => ?_)
    · have h716 := own_sT (own_s0 _ B712) q715
      refine Goes.runS X [(.aload_n 0, 1), (.iload_n 2, 1)] (S' := [.int (1 : Int32), .ref b]) (pc' := 39) rfl ?_
      refine Goes.caload X 0 1 rfl (by decide) (by decide) rfl ?_
      refine Goes.callS X 0 [] [0] (D_dg l Z a0 h0 hw c1) (wd hw 86 rfl) (wd hw 87 rfl) (wd hw 4 rfl) (wd hw 88 rfl) pd_y_13 rfl (st := []) rfl rfl (G := [(b, oC6 c0 c1 c2 c3 c4 c5)]) rfl rfl ?_
      rintro _ _ ⟨rfl, rfl⟩
      refine Goes.if1 X (pc' := 57) (o := 14) (cd := .eq) (fun q717 => ?_) (fun q717 => ?_)
      · have h718 : own_dig c1 = 0 := by simpa [ifCond.holds] using q717
        have g719 : ¬ own_g [(own_cl c0), (own_cl c1), (own_cl c2), (own_cl c3)] 1 = 4 := by show ¬ own_cl c1 = 4; rw [own_cl4]; simpa using h718
        refine Goes.runS X [(.iconst 0, 1)] (S' := [.int (0 : Int32)]) (pc' := 58) rfl ?_
        refine Goes.retI X (by simp) rfl ?_
        exact ⟨by rw [ha, own_refA]; (try simp only [hx714, Nat.reduceSub, Nat.reduceAdd]); (repeat' split) <;> first | rfl | (exfalso; omega), rfl⟩
      · have h720 : ¬ own_dig c1 = 0 := by simpa [ifCond.holds] using q717
        have g721 : own_g [(own_cl c0), (own_cl c1), (own_cl c2), (own_cl c3)] 1 = 4 := by show own_cl c1 = 4; rw [own_cl4]; simpa using h720
        refine Goes.runS X [(.aload_n 0, 1), (.iload_n 1, 1), (.iconst 1, 1), (.isub, 1)] (S' := [.int (3 : Int32), .ref b]) (pc' := 50) rfl ?_
        refine Goes.caload X 0 3 rfl (by decide) (by decide) rfl ?_
        refine Goes.callS X 0 [] [0] (D_dg l Z a0 h0 hw c3) (wd hw 86 rfl) (wd hw 87 rfl) (wd hw 4 rfl) (wd hw 88 rfl) pd_y_13 rfl (st := []) rfl rfl (G := [(b, oC6 c0 c1 c2 c3 c4 c5)]) rfl rfl ?_
        rintro _ _ ⟨rfl, rfl⟩
        refine Goes.if1 X (pc' := 59) (o := 5) (cd := .ne) (fun q722 => ?_) (fun q722 => ?_)
        · have h723 : ¬ own_dig c3 = 0 := by simpa [ifCond.holds] using q722
          have g724 : own_g [(own_cl c0), (own_cl c1), (own_cl c2), (own_cl c3)] 3 = 4 := by show own_cl c3 = 4; rw [own_cl4]; simpa using h723
          refine Goes.runS X [(.aload_n 0, 1), (.iconst 0, 1), (.iload_n 1, 1), (.iconst 0, 1)] (S' := [.int (0 : Int32), .int (4 : Int32), .int (0 : Int32), .ref b]) (pc' := 63) rfl ?_
          refine Goes.callS X 0 [0] [] (D_cnt0 l Z a0 h0 hw b c0 c1 c2 c3 c4 c5 0 4 (by decide) (by decide)) (wd hw 77 rfl) (wd hw 78 rfl) (wd hw 4 rfl) (wd hw 79 rfl) pd_y_10 rfl (st := []) rfl rfl (G := []) rfl rfl ?_
          rintro _ _ ⟨rfl, rfl⟩
          obtain ⟨x726, hx727⟩ : ∃ x, own_cntL 0 4 0 [(own_cl c0), (own_cl c1), (own_cl c2), (own_cl c3)] = x := ⟨_, rfl⟩
          rw [show own_cntN 0 4 0 (own_cl c0) (own_cl c1) (own_cl c2) (own_cl c3) (own_cl c4) (own_cl c5) = x726 from hx727]
          show Goes _ _ _ _ _ _ _ _ _ _ _ _ _ _ _ _ _ _ [(b, oC6 c0 c1 c2 c3 c4 c5)] 0 0 (mkF m 66 #[.val (.ref b), .val (.int (4 : Int32)), .val (.int (1 : Int32)), .unset, .unset, .unset, .unset, .unset, .unset] [.int (Int32.ofNat x726)])
          have B725 : x726 ≤ 15 := hx727 ▸ Nat.le_trans (own_cntN_le _ _ _ _ _ _ _ _ _) (by decide)
          refine Goes.run X [(.istore_n 3, 1), (.aload_n 0, 1), (.iconst 0, 1), (.iload_n 1, 1), (.iconst 1, 1)] (L' := #[.val (.ref b), .val (.int (4 : Int32)), .val (.int (1 : Int32)), .val (.int (Int32.ofNat x726)), .unset, .unset, .unset, .unset, .unset]) (S' := [.int (1 : Int32), .int (4 : Int32), .int (0 : Int32), .ref b]) (pc' := 71) rfl ?_
          refine Goes.callS X 0 [0] [] (D_cnt1 l Z a0 h0 hw b c0 c1 c2 c3 c4 c5 0 4 (by decide) (by decide)) (wd hw 77 rfl) (wd hw 78 rfl) (wd hw 4 rfl) (wd hw 79 rfl) pd_y_10 rfl (st := []) rfl rfl (G := []) rfl rfl ?_
          rintro _ _ ⟨rfl, rfl⟩
          obtain ⟨x729, hx730⟩ : ∃ x, own_cntL 0 4 1 [(own_cl c0), (own_cl c1), (own_cl c2), (own_cl c3)] = x := ⟨_, rfl⟩
          rw [show own_cntN 0 4 1 (own_cl c0) (own_cl c1) (own_cl c2) (own_cl c3) (own_cl c4) (own_cl c5) = x729 from hx730]
          show Goes _ _ _ _ _ _ _ _ _ _ _ _ _ _ _ _ _ _ [(b, oC6 c0 c1 c2 c3 c4 c5)] 0 0 (mkF m 74 #[.val (.ref b), .val (.int (4 : Int32)), .val (.int (1 : Int32)), .val (.int (Int32.ofNat x726)), .unset, .unset, .unset, .unset, .unset] [.int (Int32.ofNat x729)])
          have B728 : x729 ≤ 15 := hx730 ▸ Nat.le_trans (own_cntN_le _ _ _ _ _ _ _ _ _) (by decide)
          refine Goes.run X [(.istore 4, 2), (.aload_n 0, 1), (.iload_n 2, 1), (.iload_n 1, 1), (.iconst 2, 1)] (L' := #[.val (.ref b), .val (.int (4 : Int32)), .val (.int (1 : Int32)), .val (.int (Int32.ofNat x726)), .val (.int (Int32.ofNat x729)), .unset, .unset, .unset, .unset]) (S' := [.int (2 : Int32), .int (4 : Int32), .int (1 : Int32), .ref b]) (pc' := 80) rfl ?_
          refine Goes.callS X 0 [0] [] (D_cnt2 l Z a0 h0 hw b c0 c1 c2 c3 c4 c5 1 4 (by decide) (by decide)) (wd hw 77 rfl) (wd hw 78 rfl) (wd hw 4 rfl) (wd hw 79 rfl) pd_y_10 rfl (st := []) rfl rfl (G := []) rfl rfl ?_
          rintro _ _ ⟨rfl, rfl⟩
          obtain ⟨x732, hx733⟩ : ∃ x, own_cntL 1 4 2 [(own_cl c0), (own_cl c1), (own_cl c2), (own_cl c3)] = x := ⟨_, rfl⟩
          rw [show own_cntN 1 4 2 (own_cl c0) (own_cl c1) (own_cl c2) (own_cl c3) (own_cl c4) (own_cl c5) = x732 from hx733]
          show Goes _ _ _ _ _ _ _ _ _ _ _ _ _ _ _ _ _ _ [(b, oC6 c0 c1 c2 c3 c4 c5)] 0 0 (mkF m 83 #[.val (.ref b), .val (.int (4 : Int32)), .val (.int (1 : Int32)), .val (.int (Int32.ofNat x726)), .val (.int (Int32.ofNat x729)), .unset, .unset, .unset, .unset] [.int (Int32.ofNat x732)])
          have B731 : x732 ≤ 15 := hx733 ▸ Nat.le_trans (own_cntN_le _ _ _ _ _ _ _ _ _) (by decide)
          refine Goes.run X [(.istore 5, 2), (.iload_n 3, 1), (.iconst 1, 1)] (L' := #[.val (.ref b), .val (.int (4 : Int32)), .val (.int (1 : Int32)), .val (.int (Int32.ofNat x726)), .val (.int (Int32.ofNat x729)), .val (.int (Int32.ofNat x732)), .unset, .unset, .unset]) (S' := [.int (1 : Int32), .int (Int32.ofNat x726)]) (pc' := 87) rfl ?_
          refine Goes.if2 X (pc' := 102) (o := 15) (cd := .gt) (fun q734 => ?_) (fun q734 => ?_)
          · have h735 := own_sT (own_s1 _ B725) q734
            refine Goes.runS X [(.iconst 0, 1)] (S' := [.int (0 : Int32)]) (pc' := 103) rfl ?_
            refine Goes.retI X (by simp) rfl ?_
            exact ⟨by rw [ha, own_refA]; (try simp only [hx714, hx727, hx730, hx733, Nat.reduceSub, Nat.reduceAdd]); (repeat' split) <;> first | rfl | (exfalso; omega), rfl⟩
          · have h736 := own_sF (own_s1 _ B725) q734
            refine Goes.runS X [(.iload 4, 2), (.iconst 1, 1)] (S' := [.int (1 : Int32), .int (Int32.ofNat x729)]) (pc' := 93) rfl ?_
            refine Goes.if2 X (pc' := 102) (o := 9) (cd := .gt) (fun q737 => ?_) (fun q737 => ?_)
            · have h738 := own_sT (own_s1 _ B728) q737
              refine Goes.runS X [(.iconst 0, 1)] (S' := [.int (0 : Int32)]) (pc' := 103) rfl ?_
              refine Goes.retI X (by simp) rfl ?_
              exact ⟨by rw [ha, own_refA]; (try simp only [hx714, hx727, hx730, hx733, Nat.reduceSub, Nat.reduceAdd]); (repeat' split) <;> first | rfl | (exfalso; omega), rfl⟩
            · have h739 := own_sF (own_s1 _ B728) q737
              refine Goes.runS X [(.iload 5, 2), (.iconst 1, 1)] (S' := [.int (1 : Int32), .int (Int32.ofNat x732)]) (pc' := 99) rfl ?_
              refine Goes.if2 X (pc' := 104) (o := 5) (cd := .le) (fun q740 => ?_) (fun q740 => ?_)
              · have h741 := own_sT (own_s1' _ B731) q740
                refine Goes.runS X [(.aload_n 0, 1), (.iconst 0, 1), (.iload_n 1, 1), (.iconst 0, 1)] (S' := [.int (0 : Int32), .int (4 : Int32), .int (0 : Int32), .ref b]) (pc' := 108) rfl ?_
                refine Goes.callS X 0 [0] [] (D_pos0 l Z a0 h0 hw b c0 c1 c2 c3 c4 c5 0 4 (by decide) (by decide)) (wd hw 118 rfl) (wd hw 119 rfl) (wd hw 4 rfl) (wd hw 120 rfl) pd_y_20 rfl (st := []) rfl rfl (G := []) rfl rfl ?_
                rintro _ _ ⟨rfl, rfl⟩
                obtain ⟨x743, hx744⟩ : ∃ x, own_posL 0 4 0 [(own_cl c0), (own_cl c1), (own_cl c2), (own_cl c3)] = x := ⟨_, rfl⟩
                rw [show own_posN 0 4 0 (own_cl c1) (own_cl c2) (own_cl c3) (own_cl c4) (own_cl c5) = x743 from hx744]
                show Goes _ _ _ _ _ _ _ _ _ _ _ _ _ _ _ _ _ _ [(b, oC6 c0 c1 c2 c3 c4 c5)] 0 0 (mkF m 111 #[.val (.ref b), .val (.int (4 : Int32)), .val (.int (1 : Int32)), .val (.int (Int32.ofNat x726)), .val (.int (Int32.ofNat x729)), .val (.int (Int32.ofNat x732)), .unset, .unset, .unset] [.int (Int32.ofNat x743)])
                have B742 : x743 ≤ 15 := hx744 ▸ own_posN_le _ _ _ _ _ _ _ _
                refine Goes.run X [(.istore 6, 2), (.aload_n 0, 1), (.iconst 0, 1), (.iload_n 1, 1), (.iconst 1, 1)] (L' := #[.val (.ref b), .val (.int (4 : Int32)), .val (.int (1 : Int32)), .val (.int (Int32.ofNat x726)), .val (.int (Int32.ofNat x729)), .val (.int (Int32.ofNat x732)), .val (.int (Int32.ofNat x743)), .unset, .unset]) (S' := [.int (1 : Int32), .int (4 : Int32), .int (0 : Int32), .ref b]) (pc' := 117) rfl ?_
                refine Goes.callS X 0 [0] [] (D_pos1 l Z a0 h0 hw b c0 c1 c2 c3 c4 c5 0 4 (by decide) (by decide)) (wd hw 118 rfl) (wd hw 119 rfl) (wd hw 4 rfl) (wd hw 120 rfl) pd_y_20 rfl (st := []) rfl rfl (G := []) rfl rfl ?_
                rintro _ _ ⟨rfl, rfl⟩
                obtain ⟨x746, hx747⟩ : ∃ x, own_posL 0 4 1 [(own_cl c0), (own_cl c1), (own_cl c2), (own_cl c3)] = x := ⟨_, rfl⟩
                rw [show own_posN 0 4 1 (own_cl c1) (own_cl c2) (own_cl c3) (own_cl c4) (own_cl c5) = x746 from hx747]
                show Goes _ _ _ _ _ _ _ _ _ _ _ _ _ _ _ _ _ _ [(b, oC6 c0 c1 c2 c3 c4 c5)] 0 0 (mkF m 120 #[.val (.ref b), .val (.int (4 : Int32)), .val (.int (1 : Int32)), .val (.int (Int32.ofNat x726)), .val (.int (Int32.ofNat x729)), .val (.int (Int32.ofNat x732)), .val (.int (Int32.ofNat x743)), .unset, .unset] [.int (Int32.ofNat x746)])
                have B745 : x746 ≤ 15 := hx747 ▸ own_posN_le _ _ _ _ _ _ _ _
                refine Goes.run X [(.istore 7, 2), (.aload_n 0, 1), (.iload_n 2, 1), (.iload_n 1, 1), (.iconst 2, 1)] (L' := #[.val (.ref b), .val (.int (4 : Int32)), .val (.int (1 : Int32)), .val (.int (Int32.ofNat x726)), .val (.int (Int32.ofNat x729)), .val (.int (Int32.ofNat x732)), .val (.int (Int32.ofNat x743)), .val (.int (Int32.ofNat x746)), .unset]) (S' := [.int (2 : Int32), .int (4 : Int32), .int (1 : Int32), .ref b]) (pc' := 126) rfl ?_
                refine Goes.callS X 0 [0] [] (D_pos2 l Z a0 h0 hw b c0 c1 c2 c3 c4 c5 1 4 (by decide) (by decide)) (wd hw 118 rfl) (wd hw 119 rfl) (wd hw 4 rfl) (wd hw 120 rfl) pd_y_20 rfl (st := []) rfl rfl (G := []) rfl rfl ?_
                rintro _ _ ⟨rfl, rfl⟩
                obtain ⟨x749, hx750⟩ : ∃ x, own_posL 1 4 2 [(own_cl c0), (own_cl c1), (own_cl c2), (own_cl c3)] = x := ⟨_, rfl⟩
                rw [show own_posN 1 4 2 (own_cl c1) (own_cl c2) (own_cl c3) (own_cl c4) (own_cl c5) = x749 from hx750]
                show Goes _ _ _ _ _ _ _ _ _ _ _ _ _ _ _ _ _ _ [(b, oC6 c0 c1 c2 c3 c4 c5)] 0 0 (mkF m 129 #[.val (.ref b), .val (.int (4 : Int32)), .val (.int (1 : Int32)), .val (.int (Int32.ofNat x726)), .val (.int (Int32.ofNat x729)), .val (.int (Int32.ofNat x732)), .val (.int (Int32.ofNat x743)), .val (.int (Int32.ofNat x746)), .unset] [.int (Int32.ofNat x749)])
                have B748 : x749 ≤ 15 := hx750 ▸ own_posN_le _ _ _ _ _ _ _ _
                refine Goes.run X [(.istore 8, 2), (.iload 5, 2), (.iconst 1, 1)] (L' := #[.val (.ref b), .val (.int (4 : Int32)), .val (.int (1 : Int32)), .val (.int (Int32.ofNat x726)), .val (.int (Int32.ofNat x729)), .val (.int (Int32.ofNat x732)), .val (.int (Int32.ofNat x743)), .val (.int (Int32.ofNat x746)), .val (.int (Int32.ofNat x749))]) (S' := [.int (1 : Int32), .int (Int32.ofNat x732)]) (pc' := 134) rfl ?_
                have J3 : ∀ (g1 : ¬ (x732 = 1 ∧ (x729 = 0 ∨ ¬ x749 = x746 + 1))) (g2 : ¬ (x726 = 1 ∧ x729 = 1 ∧ x746 < x743)), Goes p l e ({ frames := 4, cells := 0, slots := 0, locals := 58 } : Room) s m args below meth c Z a0 h0 h ([(b, oC6 c0 c1 c2 c3 c4 c5)].map (·.1)) ({ frames := 4, cells := 0, slots := 0, locals := 58 } : Room).cells ({ frames := 4, cells := 0, slots := 0, locals := 58 } : Room).slots (fun v F => v = some (.int (Int32.ofNat (own_refN 4 [(own_cl c0), (own_cl c1), (own_cl c2), (own_cl c3)]))) ∧ F = [(b, oC6 c0 c1 c2 c3 c4 c5)]) [(b, oC6 c0 c1 c2 c3 c4 c5)] 0 0 (mkF m 173 #[.val (.ref b), .val (.int (4 : Int32)), .val (.int (1 : Int32)), .val (.int (Int32.ofNat x726)), .val (.int (Int32.ofNat x729)), .val (.int (Int32.ofNat x732)), .val (.int (Int32.ofNat x743)), .val (.int (Int32.ofNat x746)), .val (.int (Int32.ofNat x749))] []) := by
                  intro g1 g2
                  refine Goes.runS X [(.iload_n 3, 1), (.iconst 1, 1)] (S' := [.int (1 : Int32), .int (Int32.ofNat x726)]) (pc' := 175) rfl ?_
                  refine Goes.if2 X (pc' := 200) (o := 25) (cd := .ne) (fun q751 => ?_) (fun q751 => ?_)
                  · have h752 := own_sT (own_s2 _ B725) q751
                    refine Goes.runS X [(.iconst 1, 1)] (S' := [.int (1 : Int32)]) (pc' := 201) rfl ?_
                    refine Goes.retI X (by simp) rfl ?_
                    exact ⟨by rw [ha, own_refA]; (try simp only [hx714, hx727, hx730, hx733, hx744, hx747, hx750, Nat.reduceSub, Nat.reduceAdd]); (repeat' split) <;> first | rfl | (exfalso; omega), rfl⟩
                  · have h753 := own_sF (own_s2 _ B725) q751
                    have h753 := Classical.not_not.mp h753
                    refine Goes.runS X [(.iload 6, 2), (.iconst 1, 1), (.iadd, 1), (.iload_n 1, 1)] (S' := [.int (4 : Int32), .int ((Int32.ofNat x743) + (1 : Int32))]) (pc' := 183) rfl ?_
                    refine Goes.if2 X (pc' := 198) (o := 15) (cd := .ge) (fun q754 => ?_) (fun q754 => ?_)
                    · have h755 := own_sT (own_s5 4 (by decide) _ B742) q754
                      refine Goes.runS X [(.iconst 0, 1)] (S' := [.int (0 : Int32)]) (pc' := 199) rfl ?_
                      refine Goes.retI X (by simp) rfl ?_
                      exact ⟨by rw [ha, own_refA]; (try simp only [hx714, hx727, hx730, hx733, hx744, hx747, hx750, Nat.reduceSub, Nat.reduceAdd]); (repeat' split) <;> first | rfl | (exfalso; omega), rfl⟩
                    · have h756 := own_sF (own_s5 4 (by decide) _ B742) q754
                      have h756 := Classical.not_not.mp h756
                      refine Goes.runS X [(.aload_n 0, 1), (.iload 6, 2), (.iconst 1, 1), (.iadd, 1)] (S' := [.int ((Int32.ofNat x743) + (1 : Int32)), .ref b]) (pc' := 191) rfl ?_
                      have z757 : x743 = 0 ∨ x743 = 1 ∨ x743 = 2 := by omega
                      rcases z757 with z757 | z757 | z757
                      · rw [z757]
                        show Goes _ _ _ _ _ _ _ _ _ _ _ _ _ _ _ _ _ _ [(b, oC6 c0 c1 c2 c3 c4 c5)] 0 0 (mkF m 191 #[.val (.ref b), .val (.int (4 : Int32)), .val (.int (1 : Int32)), .val (.int (Int32.ofNat x726)), .val (.int (Int32.ofNat x729)), .val (.int (Int32.ofNat x732)), .val (.int (Int32.ofNat 0)), .val (.int (Int32.ofNat x746)), .val (.int (Int32.ofNat x749))] [.int ((Int32.ofNat 0) + (1 : Int32)), .ref b])
                        refine Goes.caload X 0 1 rfl (by decide) (by decide) rfl ?_
                        refine Goes.callS X 0 [] [0] (D_dg l Z a0 h0 hw c1) (wd hw 86 rfl) (wd hw 87 rfl) (wd hw 4 rfl) (wd hw 88 rfl) pd_y_13 rfl (st := []) rfl rfl (G := [(b, oC6 c0 c1 c2 c3 c4 c5)]) rfl rfl ?_
                        rintro _ _ ⟨rfl, rfl⟩
                        refine Goes.if1 X (pc' := 200) (o := 5) (cd := .ne) (fun q758 => ?_) (fun q758 => ?_)
                        · have h759 : ¬ own_dig c1 = 0 := by simpa [ifCond.holds] using q758
                          have g760 : own_g [(own_cl c0), (own_cl c1), (own_cl c2), (own_cl c3)] 1 = 4 := by show own_cl c1 = 4; rw [own_cl4]; simpa using h759
                          refine Goes.runS X [(.iconst 1, 1)] (S' := [.int (1 : Int32)]) (pc' := 201) rfl ?_
                          refine Goes.retI X (by simp) rfl ?_
                          exact ⟨by rw [ha, own_refA]; (try simp only [hx714, hx727, hx730, hx733, hx744, hx747, hx750, z757, Nat.reduceSub, Nat.reduceAdd]); (repeat' split) <;> first | rfl | (exfalso; omega), rfl⟩
                        · have h761 : own_dig c1 = 0 := by simpa [ifCond.holds] using q758
                          have g762 : ¬ own_g [(own_cl c0), (own_cl c1), (own_cl c2), (own_cl c3)] 1 = 4 := by show ¬ own_cl c1 = 4; rw [own_cl4]; simpa using h761
                          refine Goes.runS X [(.iconst 0, 1)] (S' := [.int (0 : Int32)]) (pc' := 199) rfl ?_
                          refine Goes.retI X (by simp) rfl ?_
                          exact ⟨by rw [ha, own_refA]; (try simp only [hx714, hx727, hx730, hx733, hx744, hx747, hx750, z757, Nat.reduceSub, Nat.reduceAdd]); (repeat' split) <;> first | rfl | (exfalso; omega), rfl⟩
                      · rw [z757]
                        show Goes _ _ _ _ _ _ _ _ _ _ _ _ _ _ _ _ _ _ [(b, oC6 c0 c1 c2 c3 c4 c5)] 0 0 (mkF m 191 #[.val (.ref b), .val (.int (4 : Int32)), .val (.int (1 : Int32)), .val (.int (Int32.ofNat x726)), .val (.int (Int32.ofNat x729)), .val (.int (Int32.ofNat x732)), .val (.int (Int32.ofNat 1)), .val (.int (Int32.ofNat x746)), .val (.int (Int32.ofNat x749))] [.int ((Int32.ofNat 1) + (1 : Int32)), .ref b])
                        refine Goes.caload X 0 2 rfl (by decide) (by decide) rfl ?_
                        refine Goes.callS X 0 [] [0] (D_dg l Z a0 h0 hw c2) (wd hw 86 rfl) (wd hw 87 rfl) (wd hw 4 rfl) (wd hw 88 rfl) pd_y_13 rfl (st := []) rfl rfl (G := [(b, oC6 c0 c1 c2 c3 c4 c5)]) rfl rfl ?_
                        rintro _ _ ⟨rfl, rfl⟩
                        refine Goes.if1 X (pc' := 200) (o := 5) (cd := .ne) (fun q763 => ?_) (fun q763 => ?_)
                        · have h764 : ¬ own_dig c2 = 0 := by simpa [ifCond.holds] using q763
                          have g765 : own_g [(own_cl c0), (own_cl c1), (own_cl c2), (own_cl c3)] 2 = 4 := by show own_cl c2 = 4; rw [own_cl4]; simpa using h764
                          refine Goes.runS X [(.iconst 1, 1)] (S' := [.int (1 : Int32)]) (pc' := 201) rfl ?_
                          refine Goes.retI X (by simp) rfl ?_
                          exact ⟨by rw [ha, own_refA]; (try simp only [hx714, hx727, hx730, hx733, hx744, hx747, hx750, z757, Nat.reduceSub, Nat.reduceAdd]); (repeat' split) <;> first | rfl | (exfalso; omega), rfl⟩
                        · have h766 : own_dig c2 = 0 := by simpa [ifCond.holds] using q763
                          have g767 : ¬ own_g [(own_cl c0), (own_cl c1), (own_cl c2), (own_cl c3)] 2 = 4 := by show ¬ own_cl c2 = 4; rw [own_cl4]; simpa using h766
                          refine Goes.runS X [(.iconst 0, 1)] (S' := [.int (0 : Int32)]) (pc' := 199) rfl ?_
                          refine Goes.retI X (by simp) rfl ?_
                          exact ⟨by rw [ha, own_refA]; (try simp only [hx714, hx727, hx730, hx733, hx744, hx747, hx750, z757, Nat.reduceSub, Nat.reduceAdd]); (repeat' split) <;> first | rfl | (exfalso; omega), rfl⟩
                      · rw [z757]
                        show Goes _ _ _ _ _ _ _ _ _ _ _ _ _ _ _ _ _ _ [(b, oC6 c0 c1 c2 c3 c4 c5)] 0 0 (mkF m 191 #[.val (.ref b), .val (.int (4 : Int32)), .val (.int (1 : Int32)), .val (.int (Int32.ofNat x726)), .val (.int (Int32.ofNat x729)), .val (.int (Int32.ofNat x732)), .val (.int (Int32.ofNat 2)), .val (.int (Int32.ofNat x746)), .val (.int (Int32.ofNat x749))] [.int ((Int32.ofNat 2) + (1 : Int32)), .ref b])
                        refine Goes.caload X 0 3 rfl (by decide) (by decide) rfl ?_
                        refine Goes.callS X 0 [] [0] (D_dg l Z a0 h0 hw c3) (wd hw 86 rfl) (wd hw 87 rfl) (wd hw 4 rfl) (wd hw 88 rfl) pd_y_13 rfl (st := []) rfl rfl (G := [(b, oC6 c0 c1 c2 c3 c4 c5)]) rfl rfl ?_
                        rintro _ _ ⟨rfl, rfl⟩
                        refine Goes.if1 X (pc' := 200) (o := 5) (cd := .ne) (fun q768 => ?_) (fun q768 => ?_)
                        · have h769 : ¬ own_dig c3 = 0 := by simpa [ifCond.holds] using q768
                          have g770 : own_g [(own_cl c0), (own_cl c1), (own_cl c2), (own_cl c3)] 3 = 4 := by show own_cl c3 = 4; rw [own_cl4]; simpa using h769
                          refine Goes.runS X [(.iconst 1, 1)] (S' := [.int (1 : Int32)]) (pc' := 201) rfl ?_
                          refine Goes.retI X (by simp) rfl ?_
                          exact ⟨by rw [ha, own_refA]; (try simp only [hx714, hx727, hx730, hx733, hx744, hx747, hx750, z757, Nat.reduceSub, Nat.reduceAdd]); (repeat' split) <;> first | rfl | (exfalso; omega), rfl⟩
                        · have h771 : own_dig c3 = 0 := by simpa [ifCond.holds] using q768
                          have g772 : ¬ own_g [(own_cl c0), (own_cl c1), (own_cl c2), (own_cl c3)] 3 = 4 := by show ¬ own_cl c3 = 4; rw [own_cl4]; simpa using h771
                          refine Goes.runS X [(.iconst 0, 1)] (S' := [.int (0 : Int32)]) (pc' := 199) rfl ?_
                          refine Goes.retI X (by simp) rfl ?_
                          exact ⟨by rw [ha, own_refA]; (try simp only [hx714, hx727, hx730, hx733, hx744, hx747, hx750, z757, Nat.reduceSub, Nat.reduceAdd]); (repeat' split) <;> first | rfl | (exfalso; omega), rfl⟩
                have J2 : ∀ (g1 : ¬ (x732 = 1 ∧ (x729 = 0 ∨ ¬ x749 = x746 + 1))), Goes p l e ({ frames := 4, cells := 0, slots := 0, locals := 58 } : Room) s m args below meth c Z a0 h0 h ([(b, oC6 c0 c1 c2 c3 c4 c5)].map (·.1)) ({ frames := 4, cells := 0, slots := 0, locals := 58 } : Room).cells ({ frames := 4, cells := 0, slots := 0, locals := 58 } : Room).slots (fun v F => v = some (.int (Int32.ofNat (own_refN 4 [(own_cl c0), (own_cl c1), (own_cl c2), (own_cl c3)]))) ∧ F = [(b, oC6 c0 c1 c2 c3 c4 c5)]) [(b, oC6 c0 c1 c2 c3 c4 c5)] 0 0 (mkF m 153 #[.val (.ref b), .val (.int (4 : Int32)), .val (.int (1 : Int32)), .val (.int (Int32.ofNat x726)), .val (.int (Int32.ofNat x729)), .val (.int (Int32.ofNat x732)), .val (.int (Int32.ofNat x743)), .val (.int (Int32.ofNat x746)), .val (.int (Int32.ofNat x749))] []) := by
                  intro g1
                  refine Goes.runS X [(.iload_n 3, 1), (.iconst 1, 1)] (S' := [.int (1 : Int32), .int (Int32.ofNat x726)]) (pc' := 155) rfl ?_
                  refine Goes.if2 X (pc' := 173) (o := 18) (cd := .ne) (fun q773 => ?_) (fun q773 => ?_)
                  · have h774 := own_sT (own_s2 _ B725) q773
                    exact J3 g1 (fun z => h774 z.1)
                  · have h775 := own_sF (own_s2 _ B725) q773
                    have h775 := Classical.not_not.mp h775
                    refine Goes.runS X [(.iload 4, 2), (.iconst 1, 1)] (S' := [.int (1 : Int32), .int (Int32.ofNat x729)]) (pc' := 161) rfl ?_
                    refine Goes.if2 X (pc' := 173) (o := 12) (cd := .ne) (fun q776 => ?_) (fun q776 => ?_)
                    · have h777 := own_sT (own_s2 _ B728) q776
                      exact J3 g1 (fun z => h777 z.2.1)
                    · have h778 := own_sF (own_s2 _ B728) q776
                      have h778 := Classical.not_not.mp h778
                      refine Goes.runS X [(.iload 6, 2), (.iload 7, 2)] (S' := [.int (Int32.ofNat x746), .int (Int32.ofNat x743)]) (pc' := 168) rfl ?_
                      refine Goes.if2 X (pc' := 173) (o := 5) (cd := .le) (fun q779 => ?_) (fun q779 => ?_)
                      · have h780 := own_sT (own_s4 _ B742 _ B745) q779
                        exact J3 g1 (fun z => h780 z.2.2)
                      · have h781 := own_sF (own_s4 _ B742 _ B745) q779
                        have h781 := Classical.not_not.mp h781
                        refine Goes.runS X [(.iconst 0, 1)] (S' := [.int (0 : Int32)]) (pc' := 172) rfl ?_
                        refine Goes.retI X (by simp) rfl ?_
                        exact ⟨by rw [ha, own_refA]; (try simp only [hx714, hx727, hx730, hx733, hx744, hx747, hx750, Nat.reduceSub, Nat.reduceAdd]); (repeat' split) <;> first | rfl | (exfalso; omega), rfl⟩
                refine Goes.if2 X (pc' := 153) (o := 19) (cd := .ne) (fun q782 => ?_) (fun q782 => ?_)
                · have h783 := own_sT (own_s2 _ B731) q782
                  exact J2 (fun z => h783 z.1)
                · have h784 := own_sF (own_s2 _ B731) q782
                  have h784 := Classical.not_not.mp h784
                  refine Goes.runS X [(.iload 4, 2)] (S' := [.int (Int32.ofNat x729)]) (pc' := 139) rfl ?_
                  refine Goes.if1 X (pc' := 151) (o := 12) (cd := .eq) (fun q785 => ?_) (fun q785 => ?_)
                  · have h786 := own_sT (own_s0 _ B728) q785
                    refine Goes.runS X [(.iconst 0, 1)] (S' := [.int (0 : Int32)]) (pc' := 152) rfl ?_
                    refine Goes.retI X (by simp) rfl ?_
                    exact ⟨by rw [ha, own_refA]; (try simp only [hx714, hx727, hx730, hx733, hx744, hx747, hx750, Nat.reduceSub, Nat.reduceAdd]); (repeat' split) <;> first | rfl | (exfalso; omega), rfl⟩
                  · have h787 := own_sF (own_s0 _ B728) q785
                    refine Goes.runS X [(.iload 8, 2), (.iload 7, 2), (.iconst 1, 1), (.iadd, 1)] (S' := [.int ((Int32.ofNat x746) + (1 : Int32)), .int (Int32.ofNat x749)]) (pc' := 148) rfl ?_
                    refine Goes.if2 X (pc' := 153) (o := 5) (cd := .eq) (fun q788 => ?_) (fun q788 => ?_)
                    · have h789 := own_sT (own_s3 _ B748 _ B745) q788
                      exact J2 (fun z => z.2.elim h787 (fun y => y h789))
                    · have h790 := own_sF (own_s3 _ B748 _ B745) q788
                      refine Goes.runS X [(.iconst 0, 1)] (S' := [.int (0 : Int32)]) (pc' := 152) rfl ?_
                      refine Goes.retI X (by simp) rfl ?_
                      exact ⟨by rw [ha, own_refA]; (try simp only [hx714, hx727, hx730, hx733, hx744, hx747, hx750, Nat.reduceSub, Nat.reduceAdd]); (repeat' split) <;> first | rfl | (exfalso; omega), rfl⟩
              · have h791 := own_sF (own_s1' _ B731) q740
                have h791 := Classical.not_not.mp h791
                refine Goes.runS X [(.iconst 0, 1)] (S' := [.int (0 : Int32)]) (pc' := 103) rfl ?_
                refine Goes.retI X (by simp) rfl ?_
                exact ⟨by rw [ha, own_refA]; (try simp only [hx714, hx727, hx730, hx733, Nat.reduceSub, Nat.reduceAdd]); (repeat' split) <;> first | rfl | (exfalso; omega), rfl⟩
        · have h792 : own_dig c3 = 0 := by simpa [ifCond.holds] using q722
          have g793 : ¬ own_g [(own_cl c0), (own_cl c1), (own_cl c2), (own_cl c3)] 3 = 4 := by show ¬ own_cl c3 = 4; rw [own_cl4]; simpa using h792
          refine Goes.runS X [(.iconst 0, 1)] (S' := [.int (0 : Int32)]) (pc' := 58) rfl ?_
          refine Goes.retI X (by simp) rfl ?_
          exact ⟨by rw [ha, own_refA]; (try simp only [hx714, Nat.reduceSub, Nat.reduceAdd]); (repeat' split) <;> first | rfl | (exfalso; omega), rfl⟩
    · have h794 := own_sF (own_s0 _ B712) q715
      refine Goes.runS X [(.iconst 0, 1)] (S' := [.int (0 : Int32)]) (pc' := 36) rfl ?_
      refine Goes.retI X (by simp) rfl ?_
      exact ⟨by rw [ha, own_refA_x (by rw [hx714]; omega)] <;> rfl, rfl⟩
set_option maxRecDepth 65536 in
set_option maxHeartbeats 40000000 in
theorem D_ref5 (l : Launch) (Z : State) (a0 : Array Value) (h0 : Heap) (hw : ∀ d ∈ tables_1, d.before a0 Z = true) (b : Addr) (c0 c1 c2 c3 c4 c5 : Int32) : Does l Z a0 h0 y_5 method_9_code 9 (some .boolean) ({ frames := 4, cells := 0, slots := 0, locals := 58 } : Room) #[.ref b, .int 5] [(b, oC6 c0 c1 c2 c3 c4 c5)] (fun v F => v = some (.int (Int32.ofNat (own_refN 5 [(own_cl c0), (own_cl c1), (own_cl c2), (own_cl c3), (own_cl c4)]))) ∧ F = [(b, oC6 c0 c1 c2 c3 c4 c5)]) := by
  refine Does.mk #[.val (.ref b), .val (.int (5 : Int32)), .unset, .unset, .unset, .unset, .unset, .unset, .unset] (plainFor_of_name (by decide +kernel)) (fun m => by first | (simp [entryFrame, mkF, argsToLocals, Value.category]; done) | rfl) ?_
  intro p e s m args below meth c h X
  show Goes _ _ _ _ _ _ _ _ _ _ _ _ _ _ _ _ _ _ [(b, oC6 c0 c1 c2 c3 c4 c5)] 0 0 (mkF m 0 #[.val (.ref b), .val (.int (5 : Int32)), .unset, .unset, .unset, .unset, .unset, .unset, .unset] [])
  refine Goes.runS X [(.iload_n 1, 1)] (S' := [.int (5 : Int32)]) (pc' := 1) rfl ?_
  refine Goes.if1 X (pc' := 16) (o := 15) (cd := .le) (fun q => absurd q (by decide)) (fun _ => ?_)
  refine Goes.runS X [(.aload_n 0, 1), (.iconst 0, 1)] (S' := [.int (0 : Int32), .ref b]) (pc' := 6) rfl ?_
  refine Goes.caload X 0 0 rfl (by decide) (by decide) rfl ?_
  refine Goes.runS X [(.bipush 45, 2)] (S' := [.int (45 : Int32), .int c0]) (pc' := 9) rfl ?_
  refine Goes.if2 X (pc' := 16) (o := 7) (cd := .ne) (fun q795 => ?_) (fun q795 => ?_)
  · have h796 : ¬ c0 = 45 := by simpa [if_icmp.holds] using q795
    have ha : own_refN 5 [(own_cl c0), (own_cl c1), (own_cl c2), (own_cl c3), (own_cl c4)] = own_refA 5 0 [(own_cl c0), (own_cl c1), (own_cl c2), (own_cl c3), (own_cl c4)] := congrArg (fun z => own_refA 5 z [(own_cl c0), (own_cl c1), (own_cl c2), (own_cl c3), (own_cl c4)]) (if_neg fun z => h796 ((own_cl0 _).mp z.2))
    refine Goes.runS X [(.iconst 0, 1)] (S' := [.int (0 : Int32)]) (pc' := 17) rfl ?_
    refine Goes.run X [(.istore_n 2, 1), (.iload_n 1, 1), (.iload_n 2, 1)] (L' := #[.val (.ref b), .val (.int (5 : Int32)), .val (.int (0 : Int32)), .unset, .unset, .unset, .unset, .unset, .unset]) (S' := [.int (0 : Int32), .int (5 : Int32)]) (pc' := 20) rfl ?_
    refine Goes.if2 X (pc' := 25) (o := 5) (cd := .gt) (fun _ => ?_) (fun q => absurd q (by decide))
    refine Goes.runS X [(.aload_n 0, 1), (.iconst 0, 1), (.iload_n 1, 1), (.iconst 3, 1)] (S' := [.int (3 : Int32), .int (5 : Int32), .int (0 : Int32), .ref b]) (pc' := 29) rfl ?_
    refine Goes.callS X 0 [0] [] (D_cnt3 l Z a0 h0 hw b c0 c1 c2 c3 c4 c5 0 5 (by decide) (by decide)) (wd hw 77 rfl) (wd hw 78 rfl) (wd hw 4 rfl) (wd hw 79 rfl) pd_y_10 rfl (st := []) rfl rfl (G := []) rfl rfl ?_
    rintro _ _ ⟨rfl, rfl⟩
    obtain ⟨x798, hx799⟩ : ∃ x, own_cntL 0 5 3 [(own_cl c0), (own_cl c1), (own_cl c2), (own_cl c3), (own_cl c4)] = x := ⟨_, rfl⟩
    rw [show own_cntN 0 5 3 (own_cl c0) (own_cl c1) (own_cl c2) (own_cl c3) (own_cl c4) (own_cl c5) = x798 from hx799]
    show Goes _ _ _ _ _ _ _ _ _ _ _ _ _ _ _ _ _ _ [(b, oC6 c0 c1 c2 c3 c4 c5)] 0 0 (mkF m 32 #[.val (.ref b), .val (.int (5 : Int32)), .val (.int (0 : Int32)), .unset, .unset, .unset, .unset, .unset, .unset] [.int (Int32.ofNat x798)])
    have B797 : x798 ≤ 15 := hx799 ▸ Nat.le_trans (own_cntN_le _ _ _ _ _ _ _ _ _) (by decide)
    refine Goes.if1 X (pc' := 37) (o := 5) (cd := .eq) (fun q800 => ?_) (fun q800 => ?_)
    · have h801 := own_sT (own_s0 _ B797) q800
      refine Goes.runS X [(.aload_n 0, 1), (.iload_n 2, 1)] (S' := [.int (0 : Int32), .ref b]) (pc' := 39) rfl ?_
      refine Goes.caload X 0 0 rfl (by decide) (by decide) rfl ?_
      refine Goes.callS X 0 [] [0] (D_dg l Z a0 h0 hw c0) (wd hw 86 rfl) (wd hw 87 rfl) (wd hw 4 rfl) (wd hw 88 rfl) pd_y_13 rfl (st := []) rfl rfl (G := [(b, oC6 c0 c1 c2 c3 c4 c5)]) rfl rfl ?_
      rintro _ _ ⟨rfl, rfl⟩
      refine Goes.if1 X (pc' := 57) (o := 14) (cd := .eq) (fun q802 => ?_) (fun q802 => ?_)
      · have h803 : own_dig c0 = 0 := by simpa [ifCond.holds] using q802
        have g804 : ¬ own_g [(own_cl c0), (own_cl c1), (own_cl c2), (own_cl c3), (own_cl c4)] 0 = 4 := by show ¬ own_cl c0 = 4; rw [own_cl4]; simpa using h803
        refine Goes.runS X [(.iconst 0, 1)] (S' := [.int (0 : Int32)]) (pc' := 58) rfl ?_
        refine Goes.retI X (by simp) rfl ?_
        exact ⟨by rw [ha, own_refA]; (try simp only [hx799, Nat.reduceSub, Nat.reduceAdd]); (repeat' split) <;> first | rfl | (exfalso; omega), rfl⟩
      · have h805 : ¬ own_dig c0 = 0 := by simpa [ifCond.holds] using q802
        have g806 : own_g [(own_cl c0), (own_cl c1), (own_cl c2), (own_cl c3), (own_cl c4)] 0 = 4 := by show own_cl c0 = 4; rw [own_cl4]; simpa using h805
        refine Goes.runS X [(.aload_n 0, 1), (.iload_n 1, 1), (.iconst 1, 1), (.isub, 1)] (S' := [.int (4 : Int32), .ref b]) (pc' := 50) rfl ?_
        refine Goes.caload X 0 4 rfl (by decide) (by decide) rfl ?_
        refine Goes.callS X 0 [] [0] (D_dg l Z a0 h0 hw c4) (wd hw 86 rfl) (wd hw 87 rfl) (wd hw 4 rfl) (wd hw 88 rfl) pd_y_13 rfl (st := []) rfl rfl (G := [(b, oC6 c0 c1 c2 c3 c4 c5)]) rfl rfl ?_
        rintro _ _ ⟨rfl, rfl⟩
        refine Goes.if1 X (pc' := 59) (o := 5) (cd := .ne) (fun q807 => ?_) (fun q807 => ?_)
        · have h808 : ¬ own_dig c4 = 0 := by simpa [ifCond.holds] using q807
          have g809 : own_g [(own_cl c0), (own_cl c1), (own_cl c2), (own_cl c3), (own_cl c4)] 4 = 4 := by show own_cl c4 = 4; rw [own_cl4]; simpa using h808
          refine Goes.runS X [(.aload_n 0, 1), (.iconst 0, 1), (.iload_n 1, 1), (.iconst 0, 1)] (S' := [.int (0 : Int32), .int (5 : Int32), .int (0 : Int32), .ref b]) (pc' := 63) rfl ?_
          refine Goes.callS X 0 [0] [] (D_cnt0 l Z a0 h0 hw b c0 c1 c2 c3 c4 c5 0 5 (by decide) (by decide)) (wd hw 77 rfl) (wd hw 78 rfl) (wd hw 4 rfl) (wd hw 79 rfl) pd_y_10 rfl (st := []) rfl rfl (G := []) rfl rfl ?_
          rintro _ _ ⟨rfl, rfl⟩
          obtain ⟨x811, hx812⟩ : ∃ x, own_cntL 0 5 0 [(own_cl c0), (own_cl c1), (own_cl c2), (own_cl c3), (own_cl c4)] = x := ⟨_, rfl⟩
          rw [show own_cntN 0 5 0 (own_cl c0) (own_cl c1) (own_cl c2) (own_cl c3) (own_cl c4) (own_cl c5) = x811 from hx812]
          show Goes _ _ _ _ _ _ _ _ _ _ _ _ _ _ _ _ _ _ [(b, oC6 c0 c1 c2 c3 c4 c5)] 0 0 (mkF m 66 #[.val (.ref b), .val (.int (5 : Int32)), .val (.int (0 : Int32)), .unset, .unset, .unset, .unset, .unset, .unset] [.int (Int32.ofNat x811)])
          have B810 : x811 ≤ 15 := hx812 ▸ Nat.le_trans (own_cntN_le _ _ _ _ _ _ _ _ _) (by decide)
          refine Goes.run X [(.istore_n 3, 1), (.aload_n 0, 1), (.iconst 0, 1), (.iload_n 1, 1), (.iconst 1, 1)] (L' := #[.val (.ref b), .val (.int (5 : Int32)), .val (.int (0 : Int32)), .val (.int (Int32.ofNat x811)), .unset, .unset, .unset, .unset, .unset]) (S' := [.int (1 : Int32), .int (5 : Int32), .int (0 : Int32), .ref b]) (pc' := 71) rfl ?_
          refine Goes.callS X 0 [0] [] (D_cnt1 l Z a0 h0 hw b c0 c1 c2 c3 c4 c5 0 5 (by decide) (by decide)) (wd hw 77 rfl) (wd hw 78 rfl) (wd hw 4 rfl) (wd hw 79 rfl) pd_y_10 rfl (st := []) rfl rfl (G := []) rfl rfl ?_
          rintro _ _ ⟨rfl, rfl⟩
          obtain ⟨x814, hx815⟩ : ∃ x, own_cntL 0 5 1 [(own_cl c0), (own_cl c1), (own_cl c2), (own_cl c3), (own_cl c4)] = x := ⟨_, rfl⟩
          rw [show own_cntN 0 5 1 (own_cl c0) (own_cl c1) (own_cl c2) (own_cl c3) (own_cl c4) (own_cl c5) = x814 from hx815]
          show Goes _ _ _ _ _ _ _ _ _ _ _ _ _ _ _ _ _ _ [(b, oC6 c0 c1 c2 c3 c4 c5)] 0 0 (mkF m 74 #[.val (.ref b), .val (.int (5 : Int32)), .val (.int (0 : Int32)), .val (.int (Int32.ofNat x811)), .unset, .unset, .unset, .unset, .unset] [.int (Int32.ofNat x814)])
          have B813 : x814 ≤ 15 := hx815 ▸ Nat.le_trans (own_cntN_le _ _ _ _ _ _ _ _ _) (by decide)
          refine Goes.run X [(.istore 4, 2), (.aload_n 0, 1), (.iload_n 2, 1), (.iload_n 1, 1), (.iconst 2, 1)] (L' := #[.val (.ref b), .val (.int (5 : Int32)), .val (.int (0 : Int32)), .val (.int (Int32.ofNat x811)), .val (.int (Int32.ofNat x814)), .unset, .unset, .unset, .unset]) (S' := [.int (2 : Int32), .int (5 : Int32), .int (0 : Int32), .ref b]) (pc' := 80) rfl ?_
          refine Goes.callS X 0 [0] [] (D_cnt2 l Z a0 h0 hw b c0 c1 c2 c3 c4 c5 0 5 (by decide) (by decide)) (wd hw 77 rfl) (wd hw 78 rfl) (wd hw 4 rfl) (wd hw 79 rfl) pd_y_10 rfl (st := []) rfl rfl (G := []) rfl rfl ?_
          rintro _ _ ⟨rfl, rfl⟩
          obtain ⟨x817, hx818⟩ : ∃ x, own_cntL 0 5 2 [(own_cl c0), (own_cl c1), (own_cl c2), (own_cl c3), (own_cl c4)] = x := ⟨_, rfl⟩
          rw [show own_cntN 0 5 2 (own_cl c0) (own_cl c1) (own_cl c2) (own_cl c3) (own_cl c4) (own_cl c5) = x817 from hx818]
          show Goes _ _ _ _ _ _ _ _ _ _ _ _ _ _ _ _ _ _ [(b, oC6 c0 c1 c2 c3 c4 c5)] 0 0 (mkF m 83 #[.val (.ref b), .val (.int (5 : Int32)), .val (.int (0 : Int32)), .val (.int (Int32.ofNat x811)), .val (.int (Int32.ofNat x814)), .unset, .unset, .unset, .unset] [.int (Int32.ofNat x817)])
          have B816 : x817 ≤ 15 := hx818 ▸ Nat.le_trans (own_cntN_le _ _ _ _ _ _ _ _ _) (by decide)
          refine Goes.run X [(.istore 5, 2), (.iload_n 3, 1), (.iconst 1, 1)] (L' := #[.val (.ref b), .val (.int (5 : Int32)), .val (.int (0 : Int32)), .val (.int (Int32.ofNat x811)), .val (.int (Int32.ofNat x814)), .val (.int (Int32.ofNat x817)), .unset, .unset, .unset]) (S' := [.int (1 : Int32), .int (Int32.ofNat x811)]) (pc' := 87) rfl ?_
          refine Goes.if2 X (pc' := 102) (o := 15) (cd := .gt) (fun q819 => ?_) (fun q819 => ?_)
          · have h820 := own_sT (own_s1 _ B810) q819
            refine Goes.runS X [(.iconst 0, 1)] (S' := [.int (0 : Int32)]) (pc' := 103) rfl ?_
            refine Goes.retI X (by simp) rfl ?_
            exact ⟨by rw [ha, own_refA]; (try simp only [hx799, hx812, hx815, hx818, Nat.reduceSub, Nat.reduceAdd]); (repeat' split) <;> first | rfl | (exfalso; omega), rfl⟩
          · have h821 := own_sF (own_s1 _ B810) q819
            refine Goes.runS X [(.iload 4, 2), (.iconst 1, 1)] (S' := [.int (1 : Int32), .int (Int32.ofNat x814)]) (pc' := 93) rfl ?_
            refine Goes.if2 X (pc' := 102) (o := 9) (cd := .gt) (fun q822 => ?_) (fun q822 => ?_)
            · have h823 := own_sT (own_s1 _ B813) q822
              refine Goes.runS X [(.iconst 0, 1)] (S' := [.int (0 : Int32)]) (pc' := 103) rfl ?_
              refine Goes.retI X (by simp) rfl ?_
              exact ⟨by rw [ha, own_refA]; (try simp only [hx799, hx812, hx815, hx818, Nat.reduceSub, Nat.reduceAdd]); (repeat' split) <;> first | rfl | (exfalso; omega), rfl⟩
            · have h824 := own_sF (own_s1 _ B813) q822
              refine Goes.runS X [(.iload 5, 2), (.iconst 1, 1)] (S' := [.int (1 : Int32), .int (Int32.ofNat x817)]) (pc' := 99) rfl ?_
              refine Goes.if2 X (pc' := 104) (o := 5) (cd := .le) (fun q825 => ?_) (fun q825 => ?_)
              · have h826 := own_sT (own_s1' _ B816) q825
                refine Goes.runS X [(.aload_n 0, 1), (.iconst 0, 1), (.iload_n 1, 1), (.iconst 0, 1)] (S' := [.int (0 : Int32), .int (5 : Int32), .int (0 : Int32), .ref b]) (pc' := 108) rfl ?_
                refine Goes.callS X 0 [0] [] (D_pos0 l Z a0 h0 hw b c0 c1 c2 c3 c4 c5 0 5 (by decide) (by decide)) (wd hw 118 rfl) (wd hw 119 rfl) (wd hw 4 rfl) (wd hw 120 rfl) pd_y_20 rfl (st := []) rfl rfl (G := []) rfl rfl ?_
                rintro _ _ ⟨rfl, rfl⟩
                obtain ⟨x828, hx829⟩ : ∃ x, own_posL 0 5 0 [(own_cl c0), (own_cl c1), (own_cl c2), (own_cl c3), (own_cl c4)] = x := ⟨_, rfl⟩
                rw [show own_posN 0 5 0 (own_cl c1) (own_cl c2) (own_cl c3) (own_cl c4) (own_cl c5) = x828 from hx829]
                show Goes _ _ _ _ _ _ _ _ _ _ _ _ _ _ _ _ _ _ [(b, oC6 c0 c1 c2 c3 c4 c5)] 0 0 (mkF m 111 #[.val (.ref b), .val (.int (5 : Int32)), .val (.int (0 : Int32)), .val (.int (Int32.ofNat x811)), .val (.int (Int32.ofNat x814)), .val (.int (Int32.ofNat x817)), .unset, .unset, .unset] [.int (Int32.ofNat x828)])
                have B827 : x828 ≤ 15 := hx829 ▸ own_posN_le _ _ _ _ _ _ _ _
                refine Goes.run X [(.istore 6, 2), (.aload_n 0, 1), (.iconst 0, 1), (.iload_n 1, 1), (.iconst 1, 1)] (L' := #[.val (.ref b), .val (.int (5 : Int32)), .val (.int (0 : Int32)), .val (.int (Int32.ofNat x811)), .val (.int (Int32.ofNat x814)), .val (.int (Int32.ofNat x817)), .val (.int (Int32.ofNat x828)), .unset, .unset]) (S' := [.int (1 : Int32), .int (5 : Int32), .int (0 : Int32), .ref b]) (pc' := 117) rfl ?_
                refine Goes.callS X 0 [0] [] (D_pos1 l Z a0 h0 hw b c0 c1 c2 c3 c4 c5 0 5 (by decide) (by decide)) (wd hw 118 rfl) (wd hw 119 rfl) (wd hw 4 rfl) (wd hw 120 rfl) pd_y_20 rfl (st := []) rfl rfl (G := []) rfl rfl ?_
                rintro _ _ ⟨rfl, rfl⟩
                obtain ⟨x831, hx832⟩ : ∃ x, own_posL 0 5 1 [(own_cl c0), (own_cl c1), (own_cl c2), (own_cl c3), (own_cl c4)] = x := ⟨_, rfl⟩
                rw [show own_posN 0 5 1 (own_cl c1) (own_cl c2) (own_cl c3) (own_cl c4) (own_cl c5) = x831 from hx832]
                show Goes _ _ _ _ _ _ _ _ _ _ _ _ _ _ _ _ _ _ [(b, oC6 c0 c1 c2 c3 c4 c5)] 0 0 (mkF m 120 #[.val (.ref b), .val (.int (5 : Int32)), .val (.int (0 : Int32)), .val (.int (Int32.ofNat x811)), .val (.int (Int32.ofNat x814)), .val (.int (Int32.ofNat x817)), .val (.int (Int32.ofNat x828)), .unset, .unset] [.int (Int32.ofNat x831)])
                have B830 : x831 ≤ 15 := hx832 ▸ own_posN_le _ _ _ _ _ _ _ _
                refine Goes.run X [(.istore 7, 2), (.aload_n 0, 1), (.iload_n 2, 1), (.iload_n 1, 1), (.iconst 2, 1)] (L' := #[.val (.ref b), .val (.int (5 : Int32)), .val (.int (0 : Int32)), .val (.int (Int32.ofNat x811)), .val (.int (Int32.ofNat x814)), .val (.int (Int32.ofNat x817)), .val (.int (Int32.ofNat x828)), .val (.int (Int32.ofNat x831)), .unset]) (S' := [.int (2 : Int32), .int (5 : Int32), .int (0 : Int32), .ref b]) (pc' := 126) rfl ?_
                refine Goes.callS X 0 [0] [] (D_pos2 l Z a0 h0 hw b c0 c1 c2 c3 c4 c5 0 5 (by decide) (by decide)) (wd hw 118 rfl) (wd hw 119 rfl) (wd hw 4 rfl) (wd hw 120 rfl) pd_y_20 rfl (st := []) rfl rfl (G := []) rfl rfl ?_
                rintro _ _ ⟨rfl, rfl⟩
                obtain ⟨x834, hx835⟩ : ∃ x, own_posL 0 5 2 [(own_cl c0), (own_cl c1), (own_cl c2), (own_cl c3), (own_cl c4)] = x := ⟨_, rfl⟩
                rw [show own_posN 0 5 2 (own_cl c1) (own_cl c2) (own_cl c3) (own_cl c4) (own_cl c5) = x834 from hx835]
                show Goes _ _ _ _ _ _ _ _ _ _ _ _ _ _ _ _ _ _ [(b, oC6 c0 c1 c2 c3 c4 c5)] 0 0 (mkF m 129 #[.val (.ref b), .val (.int (5 : Int32)), .val (.int (0 : Int32)), .val (.int (Int32.ofNat x811)), .val (.int (Int32.ofNat x814)), .val (.int (Int32.ofNat x817)), .val (.int (Int32.ofNat x828)), .val (.int (Int32.ofNat x831)), .unset] [.int (Int32.ofNat x834)])
                have B833 : x834 ≤ 15 := hx835 ▸ own_posN_le _ _ _ _ _ _ _ _
                refine Goes.run X [(.istore 8, 2), (.iload 5, 2), (.iconst 1, 1)] (L' := #[.val (.ref b), .val (.int (5 : Int32)), .val (.int (0 : Int32)), .val (.int (Int32.ofNat x811)), .val (.int (Int32.ofNat x814)), .val (.int (Int32.ofNat x817)), .val (.int (Int32.ofNat x828)), .val (.int (Int32.ofNat x831)), .val (.int (Int32.ofNat x834))]) (S' := [.int (1 : Int32), .int (Int32.ofNat x817)]) (pc' := 134) rfl ?_
                have J3 : ∀ (g1 : ¬ (x817 = 1 ∧ (x814 = 0 ∨ ¬ x834 = x831 + 1))) (g2 : ¬ (x811 = 1 ∧ x814 = 1 ∧ x831 < x828)), Goes p l e ({ frames := 4, cells := 0, slots := 0, locals := 58 } : Room) s m args below meth c Z a0 h0 h ([(b, oC6 c0 c1 c2 c3 c4 c5)].map (·.1)) ({ frames := 4, cells := 0, slots := 0, locals := 58 } : Room).cells ({ frames := 4, cells := 0, slots := 0, locals := 58 } : Room).slots (fun v F => v = some (.int (Int32.ofNat (own_refN 5 [(own_cl c0), (own_cl c1), (own_cl c2), (own_cl c3), (own_cl c4)]))) ∧ F = [(b, oC6 c0 c1 c2 c3 c4 c5)]) [(b, oC6 c0 c1 c2 c3 c4 c5)] 0 0 (mkF m 173 #[.val (.ref b), .val (.int (5 : Int32)), .val (.int (0 : Int32)), .val (.int (Int32.ofNat x811)), .val (.int (Int32.ofNat x814)), .val (.int (Int32.ofNat x817)), .val (.int (Int32.ofNat x828)), .val (.int (Int32.ofNat x831)), .val (.int (Int32.ofNat x834))] []) := by
                  intro g1 g2
                  refine Goes.runS X [(.iload_n 3, 1), (.iconst 1, 1)] (S' := [.int (1 : Int32), .int (Int32.ofNat x811)]) (pc' := 175) rfl ?_
                  refine Goes.if2 X (pc' := 200) (o := 25) (cd := .ne) (fun q836 => ?_) (fun q836 => ?_)
                  · have h837 := own_sT (own_s2 _ B810) q836
                    refine Goes.runS X [(.iconst 1, 1)] (S' := [.int (1 : Int32)]) (pc' := 201) rfl ?_
                    refine Goes.retI X (by simp) rfl ?_
                    exact ⟨by rw [ha, own_refA]; (try simp only [hx799, hx812, hx815, hx818, hx829, hx832, hx835, Nat.reduceSub, Nat.reduceAdd]); (repeat' split) <;> first | rfl | (exfalso; omega), rfl⟩
                  · have h838 := own_sF (own_s2 _ B810) q836
                    have h838 := Classical.not_not.mp h838
                    refine Goes.runS X [(.iload 6, 2), (.iconst 1, 1), (.iadd, 1), (.iload_n 1, 1)] (S' := [.int (5 : Int32), .int ((Int32.ofNat x828) + (1 : Int32))]) (pc' := 183) rfl ?_
                    refine Goes.if2 X (pc' := 198) (o := 15) (cd := .ge) (fun q839 => ?_) (fun q839 => ?_)
                    · have h840 := own_sT (own_s5 5 (by decide) _ B827) q839
                      refine Goes.runS X [(.iconst 0, 1)] (S' := [.int (0 : Int32)]) (pc' := 199) rfl ?_
                      refine Goes.retI X (by simp) rfl ?_
                      exact ⟨by rw [ha, own_refA]; (try simp only [hx799, hx812, hx815, hx818, hx829, hx832, hx835, Nat.reduceSub, Nat.reduceAdd]); (repeat' split) <;> first | rfl | (exfalso; omega), rfl⟩
                    · have h841 := own_sF (own_s5 5 (by decide) _ B827) q839
                      have h841 := Classical.not_not.mp h841
                      refine Goes.runS X [(.aload_n 0, 1), (.iload 6, 2), (.iconst 1, 1), (.iadd, 1)] (S' := [.int ((Int32.ofNat x828) + (1 : Int32)), .ref b]) (pc' := 191) rfl ?_
                      have z842 : x828 = 0 ∨ x828 = 1 ∨ x828 = 2 ∨ x828 = 3 := by omega
                      rcases z842 with z842 | z842 | z842 | z842
                      · rw [z842]
                        show Goes _ _ _ _ _ _ _ _ _ _ _ _ _ _ _ _ _ _ [(b, oC6 c0 c1 c2 c3 c4 c5)] 0 0 (mkF m 191 #[.val (.ref b), .val (.int (5 : Int32)), .val (.int (0 : Int32)), .val (.int (Int32.ofNat x811)), .val (.int (Int32.ofNat x814)), .val (.int (Int32.ofNat x817)), .val (.int (Int32.ofNat 0)), .val (.int (Int32.ofNat x831)), .val (.int (Int32.ofNat x834))] [.int ((Int32.ofNat 0) + (1 : Int32)), .ref b])
                        refine Goes.caload X 0 1 rfl (by decide) (by decide) rfl ?_
                        refine Goes.callS X 0 [] [0] (D_dg l Z a0 h0 hw c1) (wd hw 86 rfl) (wd hw 87 rfl) (wd hw 4 rfl) (wd hw 88 rfl) pd_y_13 rfl (st := []) rfl rfl (G := [(b, oC6 c0 c1 c2 c3 c4 c5)]) rfl rfl ?_
                        rintro _ _ ⟨rfl, rfl⟩
                        refine Goes.if1 X (pc' := 200) (o := 5) (cd := .ne) (fun q843 => ?_) (fun q843 => ?_)
                        · have h844 : ¬ own_dig c1 = 0 := by simpa [ifCond.holds] using q843
                          have g845 : own_g [(own_cl c0), (own_cl c1), (own_cl c2), (own_cl c3), (own_cl c4)] 1 = 4 := by show own_cl c1 = 4; rw [own_cl4]; simpa using h844
                          refine Goes.runS X [(.iconst 1, 1)] (S' := [.int (1 : Int32)]) (pc' := 201) rfl ?_
                          refine Goes.retI X (by simp) rfl ?_
                          exact ⟨by rw [ha, own_refA]; (try simp only [hx799, hx812, hx815, hx818, hx829, hx832, hx835, z842, Nat.reduceSub, Nat.reduceAdd]); (repeat' split) <;> first | rfl | (exfalso; omega), rfl⟩
                        · have h846 : own_dig c1 = 0 := by simpa [ifCond.holds] using q843
                          have g847 : ¬ own_g [(own_cl c0), (own_cl c1), (own_cl c2), (own_cl c3), (own_cl c4)] 1 = 4 := by show ¬ own_cl c1 = 4; rw [own_cl4]; simpa using h846
                          refine Goes.runS X [(.iconst 0, 1)] (S' := [.int (0 : Int32)]) (pc' := 199) rfl ?_
                          refine Goes.retI X (by simp) rfl ?_
                          exact ⟨by rw [ha, own_refA]; (try simp only [hx799, hx812, hx815, hx818, hx829, hx832, hx835, z842, Nat.reduceSub, Nat.reduceAdd]); (repeat' split) <;> first | rfl | (exfalso; omega), rfl⟩
                      · rw [z842]
                        show Goes _ _ _ _ _ _ _ _ _ _ _ _ _ _ _ _ _ _ [(b, oC6 c0 c1 c2 c3 c4 c5)] 0 0 (mkF m 191 #[.val (.ref b), .val (.int (5 : Int32)), .val (.int (0 : Int32)), .val (.int (Int32.ofNat x811)), .val (.int (Int32.ofNat x814)), .val (.int (Int32.ofNat x817)), .val (.int (Int32.ofNat 1)), .val (.int (Int32.ofNat x831)), .val (.int (Int32.ofNat x834))] [.int ((Int32.ofNat 1) + (1 : Int32)), .ref b])
                        refine Goes.caload X 0 2 rfl (by decide) (by decide) rfl ?_
                        refine Goes.callS X 0 [] [0] (D_dg l Z a0 h0 hw c2) (wd hw 86 rfl) (wd hw 87 rfl) (wd hw 4 rfl) (wd hw 88 rfl) pd_y_13 rfl (st := []) rfl rfl (G := [(b, oC6 c0 c1 c2 c3 c4 c5)]) rfl rfl ?_
                        rintro _ _ ⟨rfl, rfl⟩
                        refine Goes.if1 X (pc' := 200) (o := 5) (cd := .ne) (fun q848 => ?_) (fun q848 => ?_)
                        · have h849 : ¬ own_dig c2 = 0 := by simpa [ifCond.holds] using q848
                          have g850 : own_g [(own_cl c0), (own_cl c1), (own_cl c2), (own_cl c3), (own_cl c4)] 2 = 4 := by show own_cl c2 = 4; rw [own_cl4]; simpa using h849
                          refine Goes.runS X [(.iconst 1, 1)] (S' := [.int (1 : Int32)]) (pc' := 201) rfl ?_
                          refine Goes.retI X (by simp) rfl ?_
                          exact ⟨by rw [ha, own_refA]; (try simp only [hx799, hx812, hx815, hx818, hx829, hx832, hx835, z842, Nat.reduceSub, Nat.reduceAdd]); (repeat' split) <;> first | rfl | (exfalso; omega), rfl⟩
                        · have h851 : own_dig c2 = 0 := by simpa [ifCond.holds] using q848
                          have g852 : ¬ own_g [(own_cl c0), (own_cl c1), (own_cl c2), (own_cl c3), (own_cl c4)] 2 = 4 := by show ¬ own_cl c2 = 4; rw [own_cl4]; simpa using h851
                          refine Goes.runS X [(.iconst 0, 1)] (S' := [.int (0 : Int32)]) (pc' := 199) rfl ?_
                          refine Goes.retI X (by simp) rfl ?_
                          exact ⟨by rw [ha, own_refA]; (try simp only [hx799, hx812, hx815, hx818, hx829, hx832, hx835, z842, Nat.reduceSub, Nat.reduceAdd]); (repeat' split) <;> first | rfl | (exfalso; omega), rfl⟩
                      · rw [z842]
                        show Goes _ _ _ _ _ _ _ _ _ _ _ _ _ _ _ _ _ _ [(b, oC6 c0 c1 c2 c3 c4 c5)] 0 0 (mkF m 191 #[.val (.ref b), .val (.int (5 : Int32)), .val (.int (0 : Int32)), .val (.int (Int32.ofNat x811)), .val (.int (Int32.ofNat x814)), .val (.int (Int32.ofNat x817)), .val (.int (Int32.ofNat 2)), .val (.int (Int32.ofNat x831)), .val (.int (Int32.ofNat x834))] [.int ((Int32.ofNat 2) + (1 : Int32)), .ref b])
                        refine Goes.caload X 0 3 rfl (by decide) (by decide) rfl ?_
                        refine Goes.callS X 0 [] [0] (D_dg l Z a0 h0 hw c3) (wd hw 86 rfl) (wd hw 87 rfl) (wd hw 4 rfl) (wd hw 88 rfl) pd_y_13 rfl (st := []) rfl rfl (G := [(b, oC6 c0 c1 c2 c3 c4 c5)]) rfl rfl ?_
                        rintro _ _ ⟨rfl, rfl⟩
                        refine Goes.if1 X (pc' := 200) (o := 5) (cd := .ne) (fun q853 => ?_) (fun q853 => ?_)
                        · have h854 : ¬ own_dig c3 = 0 := by simpa [ifCond.holds] using q853
                          have g855 : own_g [(own_cl c0), (own_cl c1), (own_cl c2), (own_cl c3), (own_cl c4)] 3 = 4 := by show own_cl c3 = 4; rw [own_cl4]; simpa using h854
                          refine Goes.runS X [(.iconst 1, 1)] (S' := [.int (1 : Int32)]) (pc' := 201) rfl ?_
                          refine Goes.retI X (by simp) rfl ?_
                          exact ⟨by rw [ha, own_refA]; (try simp only [hx799, hx812, hx815, hx818, hx829, hx832, hx835, z842, Nat.reduceSub, Nat.reduceAdd]); (repeat' split) <;> first | rfl | (exfalso; omega), rfl⟩
                        · have h856 : own_dig c3 = 0 := by simpa [ifCond.holds] using q853
                          have g857 : ¬ own_g [(own_cl c0), (own_cl c1), (own_cl c2), (own_cl c3), (own_cl c4)] 3 = 4 := by show ¬ own_cl c3 = 4; rw [own_cl4]; simpa using h856
                          refine Goes.runS X [(.iconst 0, 1)] (S' := [.int (0 : Int32)]) (pc' := 199) rfl ?_
                          refine Goes.retI X (by simp) rfl ?_
                          exact ⟨by rw [ha, own_refA]; (try simp only [hx799, hx812, hx815, hx818, hx829, hx832, hx835, z842, Nat.reduceSub, Nat.reduceAdd]); (repeat' split) <;> first | rfl | (exfalso; omega), rfl⟩
                      · rw [z842]
                        show Goes _ _ _ _ _ _ _ _ _ _ _ _ _ _ _ _ _ _ [(b, oC6 c0 c1 c2 c3 c4 c5)] 0 0 (mkF m 191 #[.val (.ref b), .val (.int (5 : Int32)), .val (.int (0 : Int32)), .val (.int (Int32.ofNat x811)), .val (.int (Int32.ofNat x814)), .val (.int (Int32.ofNat x817)), .val (.int (Int32.ofNat 3)), .val (.int (Int32.ofNat x831)), .val (.int (Int32.ofNat x834))] [.int ((Int32.ofNat 3) + (1 : Int32)), .ref b])
                        refine Goes.caload X 0 4 rfl (by decide) (by decide) rfl ?_
                        refine Goes.callS X 0 [] [0] (D_dg l Z a0 h0 hw c4) (wd hw 86 rfl) (wd hw 87 rfl) (wd hw 4 rfl) (wd hw 88 rfl) pd_y_13 rfl (st := []) rfl rfl (G := [(b, oC6 c0 c1 c2 c3 c4 c5)]) rfl rfl ?_
                        rintro _ _ ⟨rfl, rfl⟩
                        refine Goes.if1 X (pc' := 200) (o := 5) (cd := .ne) (fun q858 => ?_) (fun q858 => ?_)
                        · have h859 : ¬ own_dig c4 = 0 := by simpa [ifCond.holds] using q858
                          have g860 : own_g [(own_cl c0), (own_cl c1), (own_cl c2), (own_cl c3), (own_cl c4)] 4 = 4 := by show own_cl c4 = 4; rw [own_cl4]; simpa using h859
                          refine Goes.runS X [(.iconst 1, 1)] (S' := [.int (1 : Int32)]) (pc' := 201) rfl ?_
                          refine Goes.retI X (by simp) rfl ?_
                          exact ⟨by rw [ha, own_refA]; (try simp only [hx799, hx812, hx815, hx818, hx829, hx832, hx835, z842, Nat.reduceSub, Nat.reduceAdd]); (repeat' split) <;> first | rfl | (exfalso; omega), rfl⟩
                        · have h861 : own_dig c4 = 0 := by simpa [ifCond.holds] using q858
                          have g862 : ¬ own_g [(own_cl c0), (own_cl c1), (own_cl c2), (own_cl c3), (own_cl c4)] 4 = 4 := by show ¬ own_cl c4 = 4; rw [own_cl4]; simpa using h861
                          refine Goes.runS X [(.iconst 0, 1)] (S' := [.int (0 : Int32)]) (pc' := 199) rfl ?_
                          refine Goes.retI X (by simp) rfl ?_
                          exact ⟨by rw [ha, own_refA]; (try simp only [hx799, hx812, hx815, hx818, hx829, hx832, hx835, z842, Nat.reduceSub, Nat.reduceAdd]); (repeat' split) <;> first | rfl | (exfalso; omega), rfl⟩
                have J2 : ∀ (g1 : ¬ (x817 = 1 ∧ (x814 = 0 ∨ ¬ x834 = x831 + 1))), Goes p l e ({ frames := 4, cells := 0, slots := 0, locals := 58 } : Room) s m args below meth c Z a0 h0 h ([(b, oC6 c0 c1 c2 c3 c4 c5)].map (·.1)) ({ frames := 4, cells := 0, slots := 0, locals := 58 } : Room).cells ({ frames := 4, cells := 0, slots := 0, locals := 58 } : Room).slots (fun v F => v = some (.int (Int32.ofNat (own_refN 5 [(own_cl c0), (own_cl c1), (own_cl c2), (own_cl c3), (own_cl c4)]))) ∧ F = [(b, oC6 c0 c1 c2 c3 c4 c5)]) [(b, oC6 c0 c1 c2 c3 c4 c5)] 0 0 (mkF m 153 #[.val (.ref b), .val (.int (5 : Int32)), .val (.int (0 : Int32)), .val (.int (Int32.ofNat x811)), .val (.int (Int32.ofNat x814)), .val (.int (Int32.ofNat x817)), .val (.int (Int32.ofNat x828)), .val (.int (Int32.ofNat x831)), .val (.int (Int32.ofNat x834))] []) := by
                  intro g1
                  refine Goes.runS X [(.iload_n 3, 1), (.iconst 1, 1)] (S' := [.int (1 : Int32), .int (Int32.ofNat x811)]) (pc' := 155) rfl ?_
                  refine Goes.if2 X (pc' := 173) (o := 18) (cd := .ne) (fun q863 => ?_) (fun q863 => ?_)
                  · have h864 := own_sT (own_s2 _ B810) q863
                    exact J3 g1 (fun z => h864 z.1)
                  · have h865 := own_sF (own_s2 _ B810) q863
                    have h865 := Classical.not_not.mp h865
                    refine Goes.runS X [(.iload 4, 2), (.iconst 1, 1)] (S' := [.int (1 : Int32), .int (Int32.ofNat x814)]) (pc' := 161) rfl ?_
                    refine Goes.if2 X (pc' := 173) (o := 12) (cd := .ne) (fun q866 => ?_) (fun q866 => ?_)
                    · have h867 := own_sT (own_s2 _ B813) q866
                      exact J3 g1 (fun z => h867 z.2.1)
                    · have h868 := own_sF (own_s2 _ B813) q866
                      have h868 := Classical.not_not.mp h868
                      refine Goes.runS X [(.iload 6, 2), (.iload 7, 2)] (S' := [.int (Int32.ofNat x831), .int (Int32.ofNat x828)]) (pc' := 168) rfl ?_
                      refine Goes.if2 X (pc' := 173) (o := 5) (cd := .le) (fun q869 => ?_) (fun q869 => ?_)
                      · have h870 := own_sT (own_s4 _ B827 _ B830) q869
                        exact J3 g1 (fun z => h870 z.2.2)
                      · have h871 := own_sF (own_s4 _ B827 _ B830) q869
                        have h871 := Classical.not_not.mp h871
                        refine Goes.runS X [(.iconst 0, 1)] (S' := [.int (0 : Int32)]) (pc' := 172) rfl ?_
                        refine Goes.retI X (by simp) rfl ?_
                        exact ⟨by rw [ha, own_refA]; (try simp only [hx799, hx812, hx815, hx818, hx829, hx832, hx835, Nat.reduceSub, Nat.reduceAdd]); (repeat' split) <;> first | rfl | (exfalso; omega), rfl⟩
                refine Goes.if2 X (pc' := 153) (o := 19) (cd := .ne) (fun q872 => ?_) (fun q872 => ?_)
                · have h873 := own_sT (own_s2 _ B816) q872
                  exact J2 (fun z => h873 z.1)
                · have h874 := own_sF (own_s2 _ B816) q872
                  have h874 := Classical.not_not.mp h874
                  refine Goes.runS X [(.iload 4, 2)] (S' := [.int (Int32.ofNat x814)]) (pc' := 139) rfl ?_
                  refine Goes.if1 X (pc' := 151) (o := 12) (cd := .eq) (fun q875 => ?_) (fun q875 => ?_)
                  · have h876 := own_sT (own_s0 _ B813) q875
                    refine Goes.runS X [(.iconst 0, 1)] (S' := [.int (0 : Int32)]) (pc' := 152) rfl ?_
                    refine Goes.retI X (by simp) rfl ?_
                    exact ⟨by rw [ha, own_refA]; (try simp only [hx799, hx812, hx815, hx818, hx829, hx832, hx835, Nat.reduceSub, Nat.reduceAdd]); (repeat' split) <;> first | rfl | (exfalso; omega), rfl⟩
                  · have h877 := own_sF (own_s0 _ B813) q875
                    refine Goes.runS X [(.iload 8, 2), (.iload 7, 2), (.iconst 1, 1), (.iadd, 1)] (S' := [.int ((Int32.ofNat x831) + (1 : Int32)), .int (Int32.ofNat x834)]) (pc' := 148) rfl ?_
                    refine Goes.if2 X (pc' := 153) (o := 5) (cd := .eq) (fun q878 => ?_) (fun q878 => ?_)
                    · have h879 := own_sT (own_s3 _ B833 _ B830) q878
                      exact J2 (fun z => z.2.elim h877 (fun y => y h879))
                    · have h880 := own_sF (own_s3 _ B833 _ B830) q878
                      refine Goes.runS X [(.iconst 0, 1)] (S' := [.int (0 : Int32)]) (pc' := 152) rfl ?_
                      refine Goes.retI X (by simp) rfl ?_
                      exact ⟨by rw [ha, own_refA]; (try simp only [hx799, hx812, hx815, hx818, hx829, hx832, hx835, Nat.reduceSub, Nat.reduceAdd]); (repeat' split) <;> first | rfl | (exfalso; omega), rfl⟩
              · have h881 := own_sF (own_s1' _ B816) q825
                have h881 := Classical.not_not.mp h881
                refine Goes.runS X [(.iconst 0, 1)] (S' := [.int (0 : Int32)]) (pc' := 103) rfl ?_
                refine Goes.retI X (by simp) rfl ?_
                exact ⟨by rw [ha, own_refA]; (try simp only [hx799, hx812, hx815, hx818, Nat.reduceSub, Nat.reduceAdd]); (repeat' split) <;> first | rfl | (exfalso; omega), rfl⟩
        · have h882 : own_dig c4 = 0 := by simpa [ifCond.holds] using q807
          have g883 : ¬ own_g [(own_cl c0), (own_cl c1), (own_cl c2), (own_cl c3), (own_cl c4)] 4 = 4 := by show ¬ own_cl c4 = 4; rw [own_cl4]; simpa using h882
          refine Goes.runS X [(.iconst 0, 1)] (S' := [.int (0 : Int32)]) (pc' := 58) rfl ?_
          refine Goes.retI X (by simp) rfl ?_
          exact ⟨by rw [ha, own_refA]; (try simp only [hx799, Nat.reduceSub, Nat.reduceAdd]); (repeat' split) <;> first | rfl | (exfalso; omega), rfl⟩
    · have h884 := own_sF (own_s0 _ B797) q800
      refine Goes.runS X [(.iconst 0, 1)] (S' := [.int (0 : Int32)]) (pc' := 36) rfl ?_
      refine Goes.retI X (by simp) rfl ?_
      exact ⟨by rw [ha, own_refA_x (by rw [hx799]; omega)] <;> rfl, rfl⟩
  · have h885 : c0 = 45 := by simpa [if_icmp.holds] using q795
    have ha : own_refN 5 [(own_cl c0), (own_cl c1), (own_cl c2), (own_cl c3), (own_cl c4)] = own_refA 5 1 [(own_cl c0), (own_cl c1), (own_cl c2), (own_cl c3), (own_cl c4)] := congrArg (fun z => own_refA 5 z [(own_cl c0), (own_cl c1), (own_cl c2), (own_cl c3), (own_cl c4)]) (if_pos ⟨by decide, (own_cl0 _).mpr h885⟩)
    refine Goes.runS X [(.iconst 1, 1)] (S' := [.int (1 : Int32)]) (pc' := 13) rfl ?_
    refine Goes.goto X (o := 4) (pc' := 17) ?_
    refine Goes.run X [(.istore_n 2, 1), (.iload_n 1, 1), (.iload_n 2, 1)] (L' := #[.val (.ref b), .val (.int (5 : Int32)), .val (.int (1 : Int32)), .unset, .unset, .unset, .unset, .unset, .unset]) (S' := [.int (1 : Int32), .int (5 : Int32)]) (pc' := 20) rfl ?_
    refine Goes.if2 X (pc' := 25) (o := 5) (cd := .gt) (fun _ => ?_) (fun q => absurd q (by decide))
    refine Goes.runS X [(.aload_n 0, 1), (.iconst 0, 1), (.iload_n 1, 1), (.iconst 3, 1)] (S' := [.int (3 : Int32), .int (5 : Int32), .int (0 : Int32), .ref b]) (pc' := 29) rfl ?_
    refine Goes.callS X 0 [0] [] (D_cnt3 l Z a0 h0 hw b c0 c1 c2 c3 c4 c5 0 5 (by decide) (by decide)) (wd hw 77 rfl) (wd hw 78 rfl) (wd hw 4 rfl) (wd hw 79 rfl) pd_y_10 rfl (st := []) rfl rfl (G := []) rfl rfl ?_
    rintro _ _ ⟨rfl, rfl⟩
    obtain ⟨x887, hx888⟩ : ∃ x, own_cntL 0 5 3 [(own_cl c0), (own_cl c1), (own_cl c2), (own_cl c3), (own_cl c4)] = x := ⟨_, rfl⟩
    rw [show own_cntN 0 5 3 (own_cl c0) (own_cl c1) (own_cl c2) (own_cl c3) (own_cl c4) (own_cl c5) = x887 from hx888]
    show Goes _ _ _ _ _ _ _ _ _ _ _ _ _ _ _ _ _ _ [(b, oC6 c0 c1 c2 c3 c4 c5)] 0 0 (mkF m 32 #[.val (.ref b), .val (.int (5 : Int32)), .val (.int (1 : Int32)), .unset, .unset, .unset, .unset, .unset, .unset] [.int (Int32.ofNat x887)])
    have B886 : x887 ≤ 15 := hx888 ▸ Nat.le_trans (own_cntN_le _ _ _ _ _ _ _ _ _) (by decide)
    refine Goes.if1 X (pc' := 37) (o := 5) (cd := .eq) (fun q889 => ?_) (fun q889 => ?_)
    · have h890 := own_sT (own_s0 _ B886) q889
      refine Goes.runS X [(.aload_n 0, 1), (.iload_n 2, 1)] (S' := [.int (1 : Int32), .ref b]) (pc' := 39) rfl ?_
      refine Goes.caload X 0 1 rfl (by decide) (by decide) rfl ?_
      refine Goes.callS X 0 [] [0] (D_dg l Z a0 h0 hw c1) (wd hw 86 rfl) (wd hw 87 rfl) (wd hw 4 rfl) (wd hw 88 rfl) pd_y_13 rfl (st := []) rfl rfl (G := [(b, oC6 c0 c1 c2 c3 c4 c5)]) rfl rfl ?_
      rintro _ _ ⟨rfl, rfl⟩
      refine Goes.if1 X (pc' := 57) (o := 14) (cd := .eq) (fun q891 => ?_) (fun q891 => ?_)
      · have h892 : own_dig c1 = 0 := by simpa [ifCond.holds] using q891
        have g893 : ¬ own_g [(own_cl c0), (own_cl c1), (own_cl c2), (own_cl c3), (own_cl c4)] 1 = 4 := by show ¬ own_cl c1 = 4; rw [own_cl4]; simpa using h892
        refine Goes.runS X [(.iconst 0, 1)] (S' := [.int (0 : Int32)]) (pc' := 58) rfl ?_
        refine Goes.retI X (by simp) rfl ?_
        exact ⟨by rw [ha, own_refA]; (try simp only [hx888, Nat.reduceSub, Nat.reduceAdd]); (repeat' split) <;> first | rfl | (exfalso; omega), rfl⟩
      · have h894 : ¬ own_dig c1 = 0 := by simpa [ifCond.holds] using q891
        have g895 : own_g [(own_cl c0), (own_cl c1), (own_cl c2), (own_cl c3), (own_cl c4)] 1 = 4 := by show own_cl c1 = 4; rw [own_cl4]; simpa using h894
        refine Goes.runS X [(.aload_n 0, 1), (.iload_n 1, 1), (.iconst 1, 1), (.isub, 1)] (S' := [.int (4 : Int32), .ref b]) (pc' := 50) rfl ?_
        refine Goes.caload X 0 4 rfl (by decide) (by decide) rfl ?_
        refine Goes.callS X 0 [] [0] (D_dg l Z a0 h0 hw c4) (wd hw 86 rfl) (wd hw 87 rfl) (wd hw 4 rfl) (wd hw 88 rfl) pd_y_13 rfl (st := []) rfl rfl (G := [(b, oC6 c0 c1 c2 c3 c4 c5)]) rfl rfl ?_
        rintro _ _ ⟨rfl, rfl⟩
        refine Goes.if1 X (pc' := 59) (o := 5) (cd := .ne) (fun q896 => ?_) (fun q896 => ?_)
        · have h897 : ¬ own_dig c4 = 0 := by simpa [ifCond.holds] using q896
          have g898 : own_g [(own_cl c0), (own_cl c1), (own_cl c2), (own_cl c3), (own_cl c4)] 4 = 4 := by show own_cl c4 = 4; rw [own_cl4]; simpa using h897
          refine Goes.runS X [(.aload_n 0, 1), (.iconst 0, 1), (.iload_n 1, 1), (.iconst 0, 1)] (S' := [.int (0 : Int32), .int (5 : Int32), .int (0 : Int32), .ref b]) (pc' := 63) rfl ?_
          refine Goes.callS X 0 [0] [] (D_cnt0 l Z a0 h0 hw b c0 c1 c2 c3 c4 c5 0 5 (by decide) (by decide)) (wd hw 77 rfl) (wd hw 78 rfl) (wd hw 4 rfl) (wd hw 79 rfl) pd_y_10 rfl (st := []) rfl rfl (G := []) rfl rfl ?_
          rintro _ _ ⟨rfl, rfl⟩
          obtain ⟨x900, hx901⟩ : ∃ x, own_cntL 0 5 0 [(own_cl c0), (own_cl c1), (own_cl c2), (own_cl c3), (own_cl c4)] = x := ⟨_, rfl⟩
          rw [show own_cntN 0 5 0 (own_cl c0) (own_cl c1) (own_cl c2) (own_cl c3) (own_cl c4) (own_cl c5) = x900 from hx901]
          show Goes _ _ _ _ _ _ _ _ _ _ _ _ _ _ _ _ _ _ [(b, oC6 c0 c1 c2 c3 c4 c5)] 0 0 (mkF m 66 #[.val (.ref b), .val (.int (5 : Int32)), .val (.int (1 : Int32)), .unset, .unset, .unset, .unset, .unset, .unset] [.int (Int32.ofNat x900)])
          have B899 : x900 ≤ 15 := hx901 ▸ Nat.le_trans (own_cntN_le _ _ _ _ _ _ _ _ _) (by decide)
          refine Goes.run X [(.istore_n 3, 1), (.aload_n 0, 1), (.iconst 0, 1), (.iload_n 1, 1), (.iconst 1, 1)] (L' := #[.val (.ref b), .val (.int (5 : Int32)), .val (.int (1 : Int32)), .val (.int (Int32.ofNat x900)), .unset, .unset, .unset, .unset, .unset]) (S' := [.int (1 : Int32), .int (5 : Int32), .int (0 : Int32), .ref b]) (pc' := 71) rfl ?_
          refine Goes.callS X 0 [0] [] (D_cnt1 l Z a0 h0 hw b c0 c1 c2 c3 c4 c5 0 5 (by decide) (by decide)) (wd hw 77 rfl) (wd hw 78 rfl) (wd hw 4 rfl) (wd hw 79 rfl) pd_y_10 rfl (st := []) rfl rfl (G := []) rfl rfl ?_
          rintro _ _ ⟨rfl, rfl⟩
          obtain ⟨x903, hx904⟩ : ∃ x, own_cntL 0 5 1 [(own_cl c0), (own_cl c1), (own_cl c2), (own_cl c3), (own_cl c4)] = x := ⟨_, rfl⟩
          rw [show own_cntN 0 5 1 (own_cl c0) (own_cl c1) (own_cl c2) (own_cl c3) (own_cl c4) (own_cl c5) = x903 from hx904]
          show Goes _ _ _ _ _ _ _ _ _ _ _ _ _ _ _ _ _ _ [(b, oC6 c0 c1 c2 c3 c4 c5)] 0 0 (mkF m 74 #[.val (.ref b), .val (.int (5 : Int32)), .val (.int (1 : Int32)), .val (.int (Int32.ofNat x900)), .unset, .unset, .unset, .unset, .unset] [.int (Int32.ofNat x903)])
          have B902 : x903 ≤ 15 := hx904 ▸ Nat.le_trans (own_cntN_le _ _ _ _ _ _ _ _ _) (by decide)
          refine Goes.run X [(.istore 4, 2), (.aload_n 0, 1), (.iload_n 2, 1), (.iload_n 1, 1), (.iconst 2, 1)] (L' := #[.val (.ref b), .val (.int (5 : Int32)), .val (.int (1 : Int32)), .val (.int (Int32.ofNat x900)), .val (.int (Int32.ofNat x903)), .unset, .unset, .unset, .unset]) (S' := [.int (2 : Int32), .int (5 : Int32), .int (1 : Int32), .ref b]) (pc' := 80) rfl ?_
          refine Goes.callS X 0 [0] [] (D_cnt2 l Z a0 h0 hw b c0 c1 c2 c3 c4 c5 1 5 (by decide) (by decide)) (wd hw 77 rfl) (wd hw 78 rfl) (wd hw 4 rfl) (wd hw 79 rfl) pd_y_10 rfl (st := []) rfl rfl (G := []) rfl rfl ?_
          rintro _ _ ⟨rfl, rfl⟩
          obtain ⟨x906, hx907⟩ : ∃ x, own_cntL 1 5 2 [(own_cl c0), (own_cl c1), (own_cl c2), (own_cl c3), (own_cl c4)] = x := ⟨_, rfl⟩
          rw [show own_cntN 1 5 2 (own_cl c0) (own_cl c1) (own_cl c2) (own_cl c3) (own_cl c4) (own_cl c5) = x906 from hx907]
          show Goes _ _ _ _ _ _ _ _ _ _ _ _ _ _ _ _ _ _ [(b, oC6 c0 c1 c2 c3 c4 c5)] 0 0 (mkF m 83 #[.val (.ref b), .val (.int (5 : Int32)), .val (.int (1 : Int32)), .val (.int (Int32.ofNat x900)), .val (.int (Int32.ofNat x903)), .unset, .unset, .unset, .unset] [.int (Int32.ofNat x906)])
          have B905 : x906 ≤ 15 := hx907 ▸ Nat.le_trans (own_cntN_le _ _ _ _ _ _ _ _ _) (by decide)
          refine Goes.run X [(.istore 5, 2), (.iload_n 3, 1), (.iconst 1, 1)] (L' := #[.val (.ref b), .val (.int (5 : Int32)), .val (.int (1 : Int32)), .val (.int (Int32.ofNat x900)), .val (.int (Int32.ofNat x903)), .val (.int (Int32.ofNat x906)), .unset, .unset, .unset]) (S' := [.int (1 : Int32), .int (Int32.ofNat x900)]) (pc' := 87) rfl ?_
          refine Goes.if2 X (pc' := 102) (o := 15) (cd := .gt) (fun q908 => ?_) (fun q908 => ?_)
          · have h909 := own_sT (own_s1 _ B899) q908
            refine Goes.runS X [(.iconst 0, 1)] (S' := [.int (0 : Int32)]) (pc' := 103) rfl ?_
            refine Goes.retI X (by simp) rfl ?_
            exact ⟨by rw [ha, own_refA]; (try simp only [hx888, hx901, hx904, hx907, Nat.reduceSub, Nat.reduceAdd]); (repeat' split) <;> first | rfl | (exfalso; omega), rfl⟩
          · have h910 := own_sF (own_s1 _ B899) q908
            refine Goes.runS X [(.iload 4, 2), (.iconst 1, 1)] (S' := [.int (1 : Int32), .int (Int32.ofNat x903)]) (pc' := 93) rfl ?_
            refine Goes.if2 X (pc' := 102) (o := 9) (cd := .gt) (fun q911 => ?_) (fun q911 => ?_)
            · have h912 := own_sT (own_s1 _ B902) q911
              refine Goes.runS X [(.iconst 0, 1)] (S' := [.int (0 : Int32)]) (pc' := 103) rfl ?_
              refine Goes.retI X (by simp) rfl ?_
              exact ⟨by rw [ha, own_refA]; (try simp only [hx888, hx901, hx904, hx907, Nat.reduceSub, Nat.reduceAdd]); (repeat' split) <;> first | rfl | (exfalso; omega), rfl⟩
            · have h913 := own_sF (own_s1 _ B902) q911
              refine Goes.runS X [(.iload 5, 2), (.iconst 1, 1)] (S' := [.int (1 : Int32), .int (Int32.ofNat x906)]) (pc' := 99) rfl ?_
              refine Goes.if2 X (pc' := 104) (o := 5) (cd := .le) (fun q914 => ?_) (fun q914 => ?_)
              · have h915 := own_sT (own_s1' _ B905) q914
                refine Goes.runS X [(.aload_n 0, 1), (.iconst 0, 1), (.iload_n 1, 1), (.iconst 0, 1)] (S' := [.int (0 : Int32), .int (5 : Int32), .int (0 : Int32), .ref b]) (pc' := 108) rfl ?_
                refine Goes.callS X 0 [0] [] (D_pos0 l Z a0 h0 hw b c0 c1 c2 c3 c4 c5 0 5 (by decide) (by decide)) (wd hw 118 rfl) (wd hw 119 rfl) (wd hw 4 rfl) (wd hw 120 rfl) pd_y_20 rfl (st := []) rfl rfl (G := []) rfl rfl ?_
                rintro _ _ ⟨rfl, rfl⟩
                obtain ⟨x917, hx918⟩ : ∃ x, own_posL 0 5 0 [(own_cl c0), (own_cl c1), (own_cl c2), (own_cl c3), (own_cl c4)] = x := ⟨_, rfl⟩
                rw [show own_posN 0 5 0 (own_cl c1) (own_cl c2) (own_cl c3) (own_cl c4) (own_cl c5) = x917 from hx918]
                show Goes _ _ _ _ _ _ _ _ _ _ _ _ _ _ _ _ _ _ [(b, oC6 c0 c1 c2 c3 c4 c5)] 0 0 (mkF m 111 #[.val (.ref b), .val (.int (5 : Int32)), .val (.int (1 : Int32)), .val (.int (Int32.ofNat x900)), .val (.int (Int32.ofNat x903)), .val (.int (Int32.ofNat x906)), .unset, .unset, .unset] [.int (Int32.ofNat x917)])
                have B916 : x917 ≤ 15 := hx918 ▸ own_posN_le _ _ _ _ _ _ _ _
                refine Goes.run X [(.istore 6, 2), (.aload_n 0, 1), (.iconst 0, 1), (.iload_n 1, 1), (.iconst 1, 1)] (L' := #[.val (.ref b), .val (.int (5 : Int32)), .val (.int (1 : Int32)), .val (.int (Int32.ofNat x900)), .val (.int (Int32.ofNat x903)), .val (.int (Int32.ofNat x906)), .val (.int (Int32.ofNat x917)), .unset, .unset]) (S' := [.int (1 : Int32), .int (5 : Int32), .int (0 : Int32), .ref b]) (pc' := 117) rfl ?_
                refine Goes.callS X 0 [0] [] (D_pos1 l Z a0 h0 hw b c0 c1 c2 c3 c4 c5 0 5 (by decide) (by decide)) (wd hw 118 rfl) (wd hw 119 rfl) (wd hw 4 rfl) (wd hw 120 rfl) pd_y_20 rfl (st := []) rfl rfl (G := []) rfl rfl ?_
                rintro _ _ ⟨rfl, rfl⟩
                obtain ⟨x920, hx921⟩ : ∃ x, own_posL 0 5 1 [(own_cl c0), (own_cl c1), (own_cl c2), (own_cl c3), (own_cl c4)] = x := ⟨_, rfl⟩
                rw [show own_posN 0 5 1 (own_cl c1) (own_cl c2) (own_cl c3) (own_cl c4) (own_cl c5) = x920 from hx921]
                show Goes _ _ _ _ _ _ _ _ _ _ _ _ _ _ _ _ _ _ [(b, oC6 c0 c1 c2 c3 c4 c5)] 0 0 (mkF m 120 #[.val (.ref b), .val (.int (5 : Int32)), .val (.int (1 : Int32)), .val (.int (Int32.ofNat x900)), .val (.int (Int32.ofNat x903)), .val (.int (Int32.ofNat x906)), .val (.int (Int32.ofNat x917)), .unset, .unset] [.int (Int32.ofNat x920)])
                have B919 : x920 ≤ 15 := hx921 ▸ own_posN_le _ _ _ _ _ _ _ _
                refine Goes.run X [(.istore 7, 2), (.aload_n 0, 1), (.iload_n 2, 1), (.iload_n 1, 1), (.iconst 2, 1)] (L' := #[.val (.ref b), .val (.int (5 : Int32)), .val (.int (1 : Int32)), .val (.int (Int32.ofNat x900)), .val (.int (Int32.ofNat x903)), .val (.int (Int32.ofNat x906)), .val (.int (Int32.ofNat x917)), .val (.int (Int32.ofNat x920)), .unset]) (S' := [.int (2 : Int32), .int (5 : Int32), .int (1 : Int32), .ref b]) (pc' := 126) rfl ?_
                refine Goes.callS X 0 [0] [] (D_pos2 l Z a0 h0 hw b c0 c1 c2 c3 c4 c5 1 5 (by decide) (by decide)) (wd hw 118 rfl) (wd hw 119 rfl) (wd hw 4 rfl) (wd hw 120 rfl) pd_y_20 rfl (st := []) rfl rfl (G := []) rfl rfl ?_
                rintro _ _ ⟨rfl, rfl⟩
                obtain ⟨x923, hx924⟩ : ∃ x, own_posL 1 5 2 [(own_cl c0), (own_cl c1), (own_cl c2), (own_cl c3), (own_cl c4)] = x := ⟨_, rfl⟩
                rw [show own_posN 1 5 2 (own_cl c1) (own_cl c2) (own_cl c3) (own_cl c4) (own_cl c5) = x923 from hx924]
                show Goes _ _ _ _ _ _ _ _ _ _ _ _ _ _ _ _ _ _ [(b, oC6 c0 c1 c2 c3 c4 c5)] 0 0 (mkF m 129 #[.val (.ref b), .val (.int (5 : Int32)), .val (.int (1 : Int32)), .val (.int (Int32.ofNat x900)), .val (.int (Int32.ofNat x903)), .val (.int (Int32.ofNat x906)), .val (.int (Int32.ofNat x917)), .val (.int (Int32.ofNat x920)), .unset] [.int (Int32.ofNat x923)])
                have B922 : x923 ≤ 15 := hx924 ▸ own_posN_le _ _ _ _ _ _ _ _
                refine Goes.run X [(.istore 8, 2), (.iload 5, 2), (.iconst 1, 1)] (L' := #[.val (.ref b), .val (.int (5 : Int32)), .val (.int (1 : Int32)), .val (.int (Int32.ofNat x900)), .val (.int (Int32.ofNat x903)), .val (.int (Int32.ofNat x906)), .val (.int (Int32.ofNat x917)), .val (.int (Int32.ofNat x920)), .val (.int (Int32.ofNat x923))]) (S' := [.int (1 : Int32), .int (Int32.ofNat x906)]) (pc' := 134) rfl ?_
                have J3 : ∀ (g1 : ¬ (x906 = 1 ∧ (x903 = 0 ∨ ¬ x923 = x920 + 1))) (g2 : ¬ (x900 = 1 ∧ x903 = 1 ∧ x920 < x917)), Goes p l e ({ frames := 4, cells := 0, slots := 0, locals := 58 } : Room) s m args below meth c Z a0 h0 h ([(b, oC6 c0 c1 c2 c3 c4 c5)].map (·.1)) ({ frames := 4, cells := 0, slots := 0, locals := 58 } : Room).cells ({ frames := 4, cells := 0, slots := 0, locals := 58 } : Room).slots (fun v F => v = some (.int (Int32.ofNat (own_refN 5 [(own_cl c0), (own_cl c1), (own_cl c2), (own_cl c3), (own_cl c4)]))) ∧ F = [(b, oC6 c0 c1 c2 c3 c4 c5)]) [(b, oC6 c0 c1 c2 c3 c4 c5)] 0 0 (mkF m 173 #[.val (.ref b), .val (.int (5 : Int32)), .val (.int (1 : Int32)), .val (.int (Int32.ofNat x900)), .val (.int (Int32.ofNat x903)), .val (.int (Int32.ofNat x906)), .val (.int (Int32.ofNat x917)), .val (.int (Int32.ofNat x920)), .val (.int (Int32.ofNat x923))] []) := by
                  intro g1 g2
                  refine Goes.runS X [(.iload_n 3, 1), (.iconst 1, 1)] (S' := [.int (1 : Int32), .int (Int32.ofNat x900)]) (pc' := 175) rfl ?_
                  refine Goes.if2 X (pc' := 200) (o := 25) (cd := .ne) (fun q925 => ?_) (fun q925 => ?_)
                  · have h926 := own_sT (own_s2 _ B899) q925
                    refine Goes.runS X [(.iconst 1, 1)] (S' := [.int (1 : Int32)]) (pc' := 201) rfl ?_
                    refine Goes.retI X (by simp) rfl ?_
                    exact ⟨by rw [ha, own_refA]; (try simp only [hx888, hx901, hx904, hx907, hx918, hx921, hx924, Nat.reduceSub, Nat.reduceAdd]); (repeat' split) <;> first | rfl | (exfalso; omega), rfl⟩
                  · have h927 := own_sF (own_s2 _ B899) q925
                    have h927 := Classical.not_not.mp h927
                    refine Goes.runS X [(.iload 6, 2), (.iconst 1, 1), (.iadd, 1), (.iload_n 1, 1)] (S' := [.int (5 : Int32), .int ((Int32.ofNat x917) + (1 : Int32))]) (pc' := 183) rfl ?_
                    refine Goes.if2 X (pc' := 198) (o := 15) (cd := .ge) (fun q928 => ?_) (fun q928 => ?_)
                    · have h929 := own_sT (own_s5 5 (by decide) _ B916) q928
                      refine Goes.runS X [(.iconst 0, 1)] (S' := [.int (0 : Int32)]) (pc' := 199) rfl ?_
                      refine Goes.retI X (by simp) rfl ?_
                      exact ⟨by rw [ha, own_refA]; (try simp only [hx888, hx901, hx904, hx907, hx918, hx921, hx924, Nat.reduceSub, Nat.reduceAdd]); (repeat' split) <;> first | rfl | (exfalso; omega), rfl⟩
                    · have h930 := own_sF (own_s5 5 (by decide) _ B916) q928
                      have h930 := Classical.not_not.mp h930
                      refine Goes.runS X [(.aload_n 0, 1), (.iload 6, 2), (.iconst 1, 1), (.iadd, 1)] (S' := [.int ((Int32.ofNat x917) + (1 : Int32)), .ref b]) (pc' := 191) rfl ?_
                      have z931 : x917 = 0 ∨ x917 = 1 ∨ x917 = 2 ∨ x917 = 3 := by omega
                      rcases z931 with z931 | z931 | z931 | z931
                      · rw [z931]
                        show Goes _ _ _ _ _ _ _ _ _ _ _ _ _ _ _ _ _ _ [(b, oC6 c0 c1 c2 c3 c4 c5)] 0 0 (mkF m 191 #[.val (.ref b), .val (.int (5 : Int32)), .val (.int (1 : Int32)), .val (.int (Int32.ofNat x900)), .val (.int (Int32.ofNat x903)), .val (.int (Int32.ofNat x906)), .val (.int (Int32.ofNat 0)), .val (.int (Int32.ofNat x920)), .val (.int (Int32.ofNat x923))] [.int ((Int32.ofNat 0) + (1 : Int32)), .ref b])
                        refine Goes.caload X 0 1 rfl (by decide) (by decide) rfl ?_
                        refine Goes.callS X 0 [] [0] (D_dg l Z a0 h0 hw c1) (wd hw 86 rfl) (wd hw 87 rfl) (wd hw 4 rfl) (wd hw 88 rfl) pd_y_13 rfl (st := []) rfl rfl (G := [(b, oC6 c0 c1 c2 c3 c4 c5)]) rfl rfl ?_
                        rintro _ _ ⟨rfl, rfl⟩
                        refine Goes.if1 X (pc' := 200) (o := 5) (cd := .ne) (fun q932 => ?_) (fun q932 => ?_)
                        · have h933 : ¬ own_dig c1 = 0 := by simpa [ifCond.holds] using q932
                          have g934 : own_g [(own_cl c0), (own_cl c1), (own_cl c2), (own_cl c3), (own_cl c4)] 1 = 4 := by show own_cl c1 = 4; rw [own_cl4]; simpa using h933
                          refine Goes.runS X [(.iconst 1, 1)] (S' := [.int (1 : Int32)]) (pc' := 201) rfl ?_
                          refine Goes.retI X (by simp) rfl ?_
                          exact ⟨by rw [ha, own_refA]; (try simp only [hx888, hx901, hx904, hx907, hx918, hx921, hx924, z931, Nat.reduceSub, Nat.reduceAdd]); (repeat' split) <;> first | rfl | (exfalso; omega), rfl⟩
                        · have h935 : own_dig c1 = 0 := by simpa [ifCond.holds] using q932
                          have g936 : ¬ own_g [(own_cl c0), (own_cl c1), (own_cl c2), (own_cl c3), (own_cl c4)] 1 = 4 := by show ¬ own_cl c1 = 4; rw [own_cl4]; simpa using h935
                          refine Goes.runS X [(.iconst 0, 1)] (S' := [.int (0 : Int32)]) (pc' := 199) rfl ?_
                          refine Goes.retI X (by simp) rfl ?_
                          exact ⟨by rw [ha, own_refA]; (try simp only [hx888, hx901, hx904, hx907, hx918, hx921, hx924, z931, Nat.reduceSub, Nat.reduceAdd]); (repeat' split) <;> first | rfl | (exfalso; omega), rfl⟩
                      · rw [z931]
                        show Goes _ _ _ _ _ _ _ _ _ _ _ _ _ _ _ _ _ _ [(b, oC6 c0 c1 c2 c3 c4 c5)] 0 0 (mkF m 191 #[.val (.ref b), .val (.int (5 : Int32)), .val (.int (1 : Int32)), .val (.int (Int32.ofNat x900)), .val (.int (Int32.ofNat x903)), .val (.int (Int32.ofNat x906)), .val (.int (Int32.ofNat 1)), .val (.int (Int32.ofNat x920)), .val (.int (Int32.ofNat x923))] [.int ((Int32.ofNat 1) + (1 : Int32)), .ref b])
                        refine Goes.caload X 0 2 rfl (by decide) (by decide) rfl ?_
                        refine Goes.callS X 0 [] [0] (D_dg l Z a0 h0 hw c2) (wd hw 86 rfl) (wd hw 87 rfl) (wd hw 4 rfl) (wd hw 88 rfl) pd_y_13 rfl (st := []) rfl rfl (G := [(b, oC6 c0 c1 c2 c3 c4 c5)]) rfl rfl ?_
                        rintro _ _ ⟨rfl, rfl⟩
                        refine Goes.if1 X (pc' := 200) (o := 5) (cd := .ne) (fun q937 => ?_) (fun q937 => ?_)
                        · have h938 : ¬ own_dig c2 = 0 := by simpa [ifCond.holds] using q937
                          have g939 : own_g [(own_cl c0), (own_cl c1), (own_cl c2), (own_cl c3), (own_cl c4)] 2 = 4 := by show own_cl c2 = 4; rw [own_cl4]; simpa using h938
                          refine Goes.runS X [(.iconst 1, 1)] (S' := [.int (1 : Int32)]) (pc' := 201) rfl ?_
                          refine Goes.retI X (by simp) rfl ?_
                          exact ⟨by rw [ha, own_refA]; (try simp only [hx888, hx901, hx904, hx907, hx918, hx921, hx924, z931, Nat.reduceSub, Nat.reduceAdd]); (repeat' split) <;> first | rfl | (exfalso; omega), rfl⟩
                        · have h940 : own_dig c2 = 0 := by simpa [ifCond.holds] using q937
                          have g941 : ¬ own_g [(own_cl c0), (own_cl c1), (own_cl c2), (own_cl c3), (own_cl c4)] 2 = 4 := by show ¬ own_cl c2 = 4; rw [own_cl4]; simpa using h940
                          refine Goes.runS X [(.iconst 0, 1)] (S' := [.int (0 : Int32)]) (pc' := 199) rfl ?_
                          refine Goes.retI X (by simp) rfl ?_
                          exact ⟨by rw [ha, own_refA]; (try simp only [hx888, hx901, hx904, hx907, hx918, hx921, hx924, z931, Nat.reduceSub, Nat.reduceAdd]); (repeat' split) <;> first | rfl | (exfalso; omega), rfl⟩
                      · rw [z931]
                        show Goes _ _ _ _ _ _ _ _ _ _ _ _ _ _ _ _ _ _ [(b, oC6 c0 c1 c2 c3 c4 c5)] 0 0 (mkF m 191 #[.val (.ref b), .val (.int (5 : Int32)), .val (.int (1 : Int32)), .val (.int (Int32.ofNat x900)), .val (.int (Int32.ofNat x903)), .val (.int (Int32.ofNat x906)), .val (.int (Int32.ofNat 2)), .val (.int (Int32.ofNat x920)), .val (.int (Int32.ofNat x923))] [.int ((Int32.ofNat 2) + (1 : Int32)), .ref b])
                        refine Goes.caload X 0 3 rfl (by decide) (by decide) rfl ?_
                        refine Goes.callS X 0 [] [0] (D_dg l Z a0 h0 hw c3) (wd hw 86 rfl) (wd hw 87 rfl) (wd hw 4 rfl) (wd hw 88 rfl) pd_y_13 rfl (st := []) rfl rfl (G := [(b, oC6 c0 c1 c2 c3 c4 c5)]) rfl rfl ?_
                        rintro _ _ ⟨rfl, rfl⟩
                        refine Goes.if1 X (pc' := 200) (o := 5) (cd := .ne) (fun q942 => ?_) (fun q942 => ?_)
                        · have h943 : ¬ own_dig c3 = 0 := by simpa [ifCond.holds] using q942
                          have g944 : own_g [(own_cl c0), (own_cl c1), (own_cl c2), (own_cl c3), (own_cl c4)] 3 = 4 := by show own_cl c3 = 4; rw [own_cl4]; simpa using h943
                          refine Goes.runS X [(.iconst 1, 1)] (S' := [.int (1 : Int32)]) (pc' := 201) rfl ?_
                          refine Goes.retI X (by simp) rfl ?_
                          exact ⟨by rw [ha, own_refA]; (try simp only [hx888, hx901, hx904, hx907, hx918, hx921, hx924, z931, Nat.reduceSub, Nat.reduceAdd]); (repeat' split) <;> first | rfl | (exfalso; omega), rfl⟩
                        · have h945 : own_dig c3 = 0 := by simpa [ifCond.holds] using q942
                          have g946 : ¬ own_g [(own_cl c0), (own_cl c1), (own_cl c2), (own_cl c3), (own_cl c4)] 3 = 4 := by show ¬ own_cl c3 = 4; rw [own_cl4]; simpa using h945
                          refine Goes.runS X [(.iconst 0, 1)] (S' := [.int (0 : Int32)]) (pc' := 199) rfl ?_
                          refine Goes.retI X (by simp) rfl ?_
                          exact ⟨by rw [ha, own_refA]; (try simp only [hx888, hx901, hx904, hx907, hx918, hx921, hx924, z931, Nat.reduceSub, Nat.reduceAdd]); (repeat' split) <;> first | rfl | (exfalso; omega), rfl⟩
                      · rw [z931]
                        show Goes _ _ _ _ _ _ _ _ _ _ _ _ _ _ _ _ _ _ [(b, oC6 c0 c1 c2 c3 c4 c5)] 0 0 (mkF m 191 #[.val (.ref b), .val (.int (5 : Int32)), .val (.int (1 : Int32)), .val (.int (Int32.ofNat x900)), .val (.int (Int32.ofNat x903)), .val (.int (Int32.ofNat x906)), .val (.int (Int32.ofNat 3)), .val (.int (Int32.ofNat x920)), .val (.int (Int32.ofNat x923))] [.int ((Int32.ofNat 3) + (1 : Int32)), .ref b])
                        refine Goes.caload X 0 4 rfl (by decide) (by decide) rfl ?_
                        refine Goes.callS X 0 [] [0] (D_dg l Z a0 h0 hw c4) (wd hw 86 rfl) (wd hw 87 rfl) (wd hw 4 rfl) (wd hw 88 rfl) pd_y_13 rfl (st := []) rfl rfl (G := [(b, oC6 c0 c1 c2 c3 c4 c5)]) rfl rfl ?_
                        rintro _ _ ⟨rfl, rfl⟩
                        refine Goes.if1 X (pc' := 200) (o := 5) (cd := .ne) (fun q947 => ?_) (fun q947 => ?_)
                        · have h948 : ¬ own_dig c4 = 0 := by simpa [ifCond.holds] using q947
                          have g949 : own_g [(own_cl c0), (own_cl c1), (own_cl c2), (own_cl c3), (own_cl c4)] 4 = 4 := by show own_cl c4 = 4; rw [own_cl4]; simpa using h948
                          refine Goes.runS X [(.iconst 1, 1)] (S' := [.int (1 : Int32)]) (pc' := 201) rfl ?_
                          refine Goes.retI X (by simp) rfl ?_
                          exact ⟨by rw [ha, own_refA]; (try simp only [hx888, hx901, hx904, hx907, hx918, hx921, hx924, z931, Nat.reduceSub, Nat.reduceAdd]); (repeat' split) <;> first | rfl | (exfalso; omega), rfl⟩
                        · have h950 : own_dig c4 = 0 := by simpa [ifCond.holds] using q947
                          have g951 : ¬ own_g [(own_cl c0), (own_cl c1), (own_cl c2), (own_cl c3), (own_cl c4)] 4 = 4 := by show ¬ own_cl c4 = 4; rw [own_cl4]; simpa using h950
                          refine Goes.runS X [(.iconst 0, 1)] (S' := [.int (0 : Int32)]) (pc' := 199) rfl ?_
                          refine Goes.retI X (by simp) rfl ?_
                          exact ⟨by rw [ha, own_refA]; (try simp only [hx888, hx901, hx904, hx907, hx918, hx921, hx924, z931, Nat.reduceSub, Nat.reduceAdd]); (repeat' split) <;> first | rfl | (exfalso; omega), rfl⟩
                have J2 : ∀ (g1 : ¬ (x906 = 1 ∧ (x903 = 0 ∨ ¬ x923 = x920 + 1))), Goes p l e ({ frames := 4, cells := 0, slots := 0, locals := 58 } : Room) s m args below meth c Z a0 h0 h ([(b, oC6 c0 c1 c2 c3 c4 c5)].map (·.1)) ({ frames := 4, cells := 0, slots := 0, locals := 58 } : Room).cells ({ frames := 4, cells := 0, slots := 0, locals := 58 } : Room).slots (fun v F => v = some (.int (Int32.ofNat (own_refN 5 [(own_cl c0), (own_cl c1), (own_cl c2), (own_cl c3), (own_cl c4)]))) ∧ F = [(b, oC6 c0 c1 c2 c3 c4 c5)]) [(b, oC6 c0 c1 c2 c3 c4 c5)] 0 0 (mkF m 153 #[.val (.ref b), .val (.int (5 : Int32)), .val (.int (1 : Int32)), .val (.int (Int32.ofNat x900)), .val (.int (Int32.ofNat x903)), .val (.int (Int32.ofNat x906)), .val (.int (Int32.ofNat x917)), .val (.int (Int32.ofNat x920)), .val (.int (Int32.ofNat x923))] []) := by
                  intro g1
                  refine Goes.runS X [(.iload_n 3, 1), (.iconst 1, 1)] (S' := [.int (1 : Int32), .int (Int32.ofNat x900)]) (pc' := 155) rfl ?_
                  refine Goes.if2 X (pc' := 173) (o := 18) (cd := .ne) (fun q952 => ?_) (fun q952 => ?_)
                  · have h953 := own_sT (own_s2 _ B899) q952
                    exact J3 g1 (fun z => h953 z.1)
                  · have h954 := own_sF (own_s2 _ B899) q952
                    have h954 := Classical.not_not.mp h954
                    refine Goes.runS X [(.iload 4, 2), (.iconst 1, 1)] (S' := [.int (1 : Int32), .int (Int32.ofNat x903)]) (pc' := 161) rfl ?_
                    refine Goes.if2 X (pc' := 173) (o := 12) (cd := .ne) (fun q955 => ?_) (fun q955 => ?_)
                    · have h956 := own_sT (own_s2 _ B902) q955
                      exact J3 g1 (fun z => h956 z.2.1)
                    · have h957 := own_sF (own_s2 _ B902) q955
                      have h957 := Classical.not_not.mp h957
                      refine Goes.runS X [(.iload 6, 2), (.iload 7, 2)] (S' := [.int (Int32.ofNat x920), .int (Int32.ofNat x917)]) (pc' := 168) rfl ?_
                      refine Goes.if2 X (pc' := 173) (o := 5) (cd := .le) (fun q958 => ?_) (fun q958 => ?_)
                      · have h959 := own_sT (own_s4 _ B916 _ B919) q958
                        exact J3 g1 (fun z => h959 z.2.2)
                      · have h960 := own_sF (own_s4 _ B916 _ B919) q958
                        have h960 := Classical.not_not.mp h960
                        refine Goes.runS X [(.iconst 0, 1)] (S' := [.int (0 : Int32)]) (pc' := 172) rfl ?_
                        refine Goes.retI X (by simp) rfl ?_
                        exact ⟨by rw [ha, own_refA]; (try simp only [hx888, hx901, hx904, hx907, hx918, hx921, hx924, Nat.reduceSub, Nat.reduceAdd]); (repeat' split) <;> first | rfl | (exfalso; omega), rfl⟩
                refine Goes.if2 X (pc' := 153) (o := 19) (cd := .ne) (fun q961 => ?_) (fun q961 => ?_)
                · have h962 := own_sT (own_s2 _ B905) q961
                  exact J2 (fun z => h962 z.1)
                · have h963 := own_sF (own_s2 _ B905) q961
                  have h963 := Classical.not_not.mp h963
                  refine Goes.runS X [(.iload 4, 2)] (S' := [.int (Int32.ofNat x903)]) (pc' := 139) rfl ?_
                  refine Goes.if1 X (pc' := 151) (o := 12) (cd := .eq) (fun q964 => ?_) (fun q964 => ?_)
                  · have h965 := own_sT (own_s0 _ B902) q964
                    refine Goes.runS X [(.iconst 0, 1)] (S' := [.int (0 : Int32)]) (pc' := 152) rfl ?_
                    refine Goes.retI X (by simp) rfl ?_
                    exact ⟨by rw [ha, own_refA]; (try simp only [hx888, hx901, hx904, hx907, hx918, hx921, hx924, Nat.reduceSub, Nat.reduceAdd]); (repeat' split) <;> first | rfl | (exfalso; omega), rfl⟩
                  · have h966 := own_sF (own_s0 _ B902) q964
                    refine Goes.runS X [(.iload 8, 2), (.iload 7, 2), (.iconst 1, 1), (.iadd, 1)] (S' := [.int ((Int32.ofNat x920) + (1 : Int32)), .int (Int32.ofNat x923)]) (pc' := 148) rfl ?_
                    refine Goes.if2 X (pc' := 153) (o := 5) (cd := .eq) (fun q967 => ?_) (fun q967 => ?_)
                    · have h968 := own_sT (own_s3 _ B922 _ B919) q967
                      exact J2 (fun z => z.2.elim h966 (fun y => y h968))
                    · have h969 := own_sF (own_s3 _ B922 _ B919) q967
                      refine Goes.runS X [(.iconst 0, 1)] (S' := [.int (0 : Int32)]) (pc' := 152) rfl ?_
                      refine Goes.retI X (by simp) rfl ?_
                      exact ⟨by rw [ha, own_refA]; (try simp only [hx888, hx901, hx904, hx907, hx918, hx921, hx924, Nat.reduceSub, Nat.reduceAdd]); (repeat' split) <;> first | rfl | (exfalso; omega), rfl⟩
              · have h970 := own_sF (own_s1' _ B905) q914
                have h970 := Classical.not_not.mp h970
                refine Goes.runS X [(.iconst 0, 1)] (S' := [.int (0 : Int32)]) (pc' := 103) rfl ?_
                refine Goes.retI X (by simp) rfl ?_
                exact ⟨by rw [ha, own_refA]; (try simp only [hx888, hx901, hx904, hx907, Nat.reduceSub, Nat.reduceAdd]); (repeat' split) <;> first | rfl | (exfalso; omega), rfl⟩
        · have h971 : own_dig c4 = 0 := by simpa [ifCond.holds] using q896
          have g972 : ¬ own_g [(own_cl c0), (own_cl c1), (own_cl c2), (own_cl c3), (own_cl c4)] 4 = 4 := by show ¬ own_cl c4 = 4; rw [own_cl4]; simpa using h971
          refine Goes.runS X [(.iconst 0, 1)] (S' := [.int (0 : Int32)]) (pc' := 58) rfl ?_
          refine Goes.retI X (by simp) rfl ?_
          exact ⟨by rw [ha, own_refA]; (try simp only [hx888, Nat.reduceSub, Nat.reduceAdd]); (repeat' split) <;> first | rfl | (exfalso; omega), rfl⟩
    · have h973 := own_sF (own_s0 _ B886) q889
      refine Goes.runS X [(.iconst 0, 1)] (S' := [.int (0 : Int32)]) (pc' := 36) rfl ?_
      refine Goes.retI X (by simp) rfl ?_
      exact ⟨by rw [ha, own_refA_x (by rw [hx888]; omega)] <;> rfl, rfl⟩
set_option maxRecDepth 65536 in
set_option maxHeartbeats 40000000 in
theorem D_ref6 (l : Launch) (Z : State) (a0 : Array Value) (h0 : Heap) (hw : ∀ d ∈ tables_1, d.before a0 Z = true) (b : Addr) (c0 c1 c2 c3 c4 c5 : Int32) : Does l Z a0 h0 y_5 method_9_code 9 (some .boolean) ({ frames := 4, cells := 0, slots := 0, locals := 58 } : Room) #[.ref b, .int 6] [(b, oC6 c0 c1 c2 c3 c4 c5)] (fun v F => v = some (.int (Int32.ofNat (own_refN 6 [(own_cl c0), (own_cl c1), (own_cl c2), (own_cl c3), (own_cl c4), (own_cl c5)]))) ∧ F = [(b, oC6 c0 c1 c2 c3 c4 c5)]) := by
  refine Does.mk #[.val (.ref b), .val (.int (6 : Int32)), .unset, .unset, .unset, .unset, .unset, .unset, .unset] (plainFor_of_name (by decide +kernel)) (fun m => by first | (simp [entryFrame, mkF, argsToLocals, Value.category]; done) | rfl) ?_
  intro p e s m args below meth c h X
  show Goes _ _ _ _ _ _ _ _ _ _ _ _ _ _ _ _ _ _ [(b, oC6 c0 c1 c2 c3 c4 c5)] 0 0 (mkF m 0 #[.val (.ref b), .val (.int (6 : Int32)), .unset, .unset, .unset, .unset, .unset, .unset, .unset] [])
  refine Goes.runS X [(.iload_n 1, 1)] (S' := [.int (6 : Int32)]) (pc' := 1) rfl ?_
  refine Goes.if1 X (pc' := 16) (o := 15) (cd := .le) (fun q => absurd q (by decide)) (fun _ => ?_)
  refine Goes.runS X [(.aload_n 0, 1), (.iconst 0, 1)] (S' := [.int (0 : Int32), .ref b]) (pc' := 6) rfl ?_
  refine Goes.caload X 0 0 rfl (by decide) (by decide) rfl ?_
  refine Goes.runS X [(.bipush 45, 2)] (S' := [.int (45 : Int32), .int c0]) (pc' := 9) rfl ?_
  refine Goes.if2 X (pc' := 16) (o := 7) (cd := .ne) (fun q974 => ?_) (fun q974 => ?_)
  · have h975 : ¬ c0 = 45 := by simpa [if_icmp.holds] using q974
    have ha : own_refN 6 [(own_cl c0), (own_cl c1), (own_cl c2), (own_cl c3), (own_cl c4), (own_cl c5)] = own_refA 6 0 [(own_cl c0), (own_cl c1), (own_cl c2), (own_cl c3), (own_cl c4), (own_cl c5)] := congrArg (fun z => own_refA 6 z [(own_cl c0), (own_cl c1), (own_cl c2), (own_cl c3), (own_cl c4), (own_cl c5)]) (if_neg fun z => h975 ((own_cl0 _).mp z.2))
    refine Goes.runS X [(.iconst 0, 1)] (S' := [.int (0 : Int32)]) (pc' := 17) rfl ?_
    refine Goes.run X [(.istore_n 2, 1), (.iload_n 1, 1), (.iload_n 2, 1)] (L' := #[.val (.ref b), .val (.int (6 : Int32)), .val (.int (0 : Int32)), .unset, .unset, .unset, .unset, .unset, .unset]) (S' := [.int (0 : Int32), .int (6 : Int32)]) (pc' := 20) rfl ?_
    refine Goes.if2 X (pc' := 25) (o := 5) (cd := .gt) (fun _ => ?_) (fun q => absurd q (by decide))
    refine Goes.runS X [(.aload_n 0, 1), (.iconst 0, 1), (.iload_n 1, 1), (.iconst 3, 1)] (S' := [.int (3 : Int32), .int (6 : Int32), .int (0 : Int32), .ref b]) (pc' := 29) rfl ?_
    refine Goes.callS X 0 [0] [] (D_cnt3 l Z a0 h0 hw b c0 c1 c2 c3 c4 c5 0 6 (by decide) (by decide)) (wd hw 77 rfl) (wd hw 78 rfl) (wd hw 4 rfl) (wd hw 79 rfl) pd_y_10 rfl (st := []) rfl rfl (G := []) rfl rfl ?_
    rintro _ _ ⟨rfl, rfl⟩
    obtain ⟨x977, hx978⟩ : ∃ x, own_cntL 0 6 3 [(own_cl c0), (own_cl c1), (own_cl c2), (own_cl c3), (own_cl c4), (own_cl c5)] = x := ⟨_, rfl⟩
    rw [show own_cntN 0 6 3 (own_cl c0) (own_cl c1) (own_cl c2) (own_cl c3) (own_cl c4) (own_cl c5) = x977 from hx978]
    show Goes _ _ _ _ _ _ _ _ _ _ _ _ _ _ _ _ _ _ [(b, oC6 c0 c1 c2 c3 c4 c5)] 0 0 (mkF m 32 #[.val (.ref b), .val (.int (6 : Int32)), .val (.int (0 : Int32)), .unset, .unset, .unset, .unset, .unset, .unset] [.int (Int32.ofNat x977)])
    have B976 : x977 ≤ 15 := hx978 ▸ Nat.le_trans (own_cntN_le _ _ _ _ _ _ _ _ _) (by decide)
    refine Goes.if1 X (pc' := 37) (o := 5) (cd := .eq) (fun q979 => ?_) (fun q979 => ?_)
    · have h980 := own_sT (own_s0 _ B976) q979
      refine Goes.runS X [(.aload_n 0, 1), (.iload_n 2, 1)] (S' := [.int (0 : Int32), .ref b]) (pc' := 39) rfl ?_
      refine Goes.caload X 0 0 rfl (by decide) (by decide) rfl ?_
      refine Goes.callS X 0 [] [0] (D_dg l Z a0 h0 hw c0) (wd hw 86 rfl) (wd hw 87 rfl) (wd hw 4 rfl) (wd hw 88 rfl) pd_y_13 rfl (st := []) rfl rfl (G := [(b, oC6 c0 c1 c2 c3 c4 c5)]) rfl rfl ?_
      rintro _ _ ⟨rfl, rfl⟩
      refine Goes.if1 X (pc' := 57) (o := 14) (cd := .eq) (fun q981 => ?_) (fun q981 => ?_)
      · have h982 : own_dig c0 = 0 := by simpa [ifCond.holds] using q981
        have g983 : ¬ own_g [(own_cl c0), (own_cl c1), (own_cl c2), (own_cl c3), (own_cl c4), (own_cl c5)] 0 = 4 := by show ¬ own_cl c0 = 4; rw [own_cl4]; simpa using h982
        refine Goes.runS X [(.iconst 0, 1)] (S' := [.int (0 : Int32)]) (pc' := 58) rfl ?_
        refine Goes.retI X (by simp) rfl ?_
        exact ⟨by rw [ha, own_refA]; (try simp only [hx978, Nat.reduceSub, Nat.reduceAdd]); (repeat' split) <;> first | rfl | (exfalso; omega), rfl⟩
      · have h984 : ¬ own_dig c0 = 0 := by simpa [ifCond.holds] using q981
        have g985 : own_g [(own_cl c0), (own_cl c1), (own_cl c2), (own_cl c3), (own_cl c4), (own_cl c5)] 0 = 4 := by show own_cl c0 = 4; rw [own_cl4]; simpa using h984
        refine Goes.runS X [(.aload_n 0, 1), (.iload_n 1, 1), (.iconst 1, 1), (.isub, 1)] (S' := [.int (5 : Int32), .ref b]) (pc' := 50) rfl ?_
        refine Goes.caload X 0 5 rfl (by decide) (by decide) rfl ?_
        refine Goes.callS X 0 [] [0] (D_dg l Z a0 h0 hw c5) (wd hw 86 rfl) (wd hw 87 rfl) (wd hw 4 rfl) (wd hw 88 rfl) pd_y_13 rfl (st := []) rfl rfl (G := [(b, oC6 c0 c1 c2 c3 c4 c5)]) rfl rfl ?_
        rintro _ _ ⟨rfl, rfl⟩
        refine Goes.if1 X (pc' := 59) (o := 5) (cd := .ne) (fun q986 => ?_) (fun q986 => ?_)
        · have h987 : ¬ own_dig c5 = 0 := by simpa [ifCond.holds] using q986
          have g988 : own_g [(own_cl c0), (own_cl c1), (own_cl c2), (own_cl c3), (own_cl c4), (own_cl c5)] 5 = 4 := by show own_cl c5 = 4; rw [own_cl4]; simpa using h987
          refine Goes.runS X [(.aload_n 0, 1), (.iconst 0, 1), (.iload_n 1, 1), (.iconst 0, 1)] (S' := [.int (0 : Int32), .int (6 : Int32), .int (0 : Int32), .ref b]) (pc' := 63) rfl ?_
          refine Goes.callS X 0 [0] [] (D_cnt0 l Z a0 h0 hw b c0 c1 c2 c3 c4 c5 0 6 (by decide) (by decide)) (wd hw 77 rfl) (wd hw 78 rfl) (wd hw 4 rfl) (wd hw 79 rfl) pd_y_10 rfl (st := []) rfl rfl (G := []) rfl rfl ?_
          rintro _ _ ⟨rfl, rfl⟩
          obtain ⟨x990, hx991⟩ : ∃ x, own_cntL 0 6 0 [(own_cl c0), (own_cl c1), (own_cl c2), (own_cl c3), (own_cl c4), (own_cl c5)] = x := ⟨_, rfl⟩
          rw [show own_cntN 0 6 0 (own_cl c0) (own_cl c1) (own_cl c2) (own_cl c3) (own_cl c4) (own_cl c5) = x990 from hx991]
          show Goes _ _ _ _ _ _ _ _ _ _ _ _ _ _ _ _ _ _ [(b, oC6 c0 c1 c2 c3 c4 c5)] 0 0 (mkF m 66 #[.val (.ref b), .val (.int (6 : Int32)), .val (.int (0 : Int32)), .unset, .unset, .unset, .unset, .unset, .unset] [.int (Int32.ofNat x990)])
          have B989 : x990 ≤ 15 := hx991 ▸ Nat.le_trans (own_cntN_le _ _ _ _ _ _ _ _ _) (by decide)
          refine Goes.run X [(.istore_n 3, 1), (.aload_n 0, 1), (.iconst 0, 1), (.iload_n 1, 1), (.iconst 1, 1)] (L' := #[.val (.ref b), .val (.int (6 : Int32)), .val (.int (0 : Int32)), .val (.int (Int32.ofNat x990)), .unset, .unset, .unset, .unset, .unset]) (S' := [.int (1 : Int32), .int (6 : Int32), .int (0 : Int32), .ref b]) (pc' := 71) rfl ?_
          refine Goes.callS X 0 [0] [] (D_cnt1 l Z a0 h0 hw b c0 c1 c2 c3 c4 c5 0 6 (by decide) (by decide)) (wd hw 77 rfl) (wd hw 78 rfl) (wd hw 4 rfl) (wd hw 79 rfl) pd_y_10 rfl (st := []) rfl rfl (G := []) rfl rfl ?_
          rintro _ _ ⟨rfl, rfl⟩
          obtain ⟨x993, hx994⟩ : ∃ x, own_cntL 0 6 1 [(own_cl c0), (own_cl c1), (own_cl c2), (own_cl c3), (own_cl c4), (own_cl c5)] = x := ⟨_, rfl⟩
          rw [show own_cntN 0 6 1 (own_cl c0) (own_cl c1) (own_cl c2) (own_cl c3) (own_cl c4) (own_cl c5) = x993 from hx994]
          show Goes _ _ _ _ _ _ _ _ _ _ _ _ _ _ _ _ _ _ [(b, oC6 c0 c1 c2 c3 c4 c5)] 0 0 (mkF m 74 #[.val (.ref b), .val (.int (6 : Int32)), .val (.int (0 : Int32)), .val (.int (Int32.ofNat x990)), .unset, .unset, .unset, .unset, .unset] [.int (Int32.ofNat x993)])
          have B992 : x993 ≤ 15 := hx994 ▸ Nat.le_trans (own_cntN_le _ _ _ _ _ _ _ _ _) (by decide)
          refine Goes.run X [(.istore 4, 2), (.aload_n 0, 1), (.iload_n 2, 1), (.iload_n 1, 1), (.iconst 2, 1)] (L' := #[.val (.ref b), .val (.int (6 : Int32)), .val (.int (0 : Int32)), .val (.int (Int32.ofNat x990)), .val (.int (Int32.ofNat x993)), .unset, .unset, .unset, .unset]) (S' := [.int (2 : Int32), .int (6 : Int32), .int (0 : Int32), .ref b]) (pc' := 80) rfl ?_
          refine Goes.callS X 0 [0] [] (D_cnt2 l Z a0 h0 hw b c0 c1 c2 c3 c4 c5 0 6 (by decide) (by decide)) (wd hw 77 rfl) (wd hw 78 rfl) (wd hw 4 rfl) (wd hw 79 rfl) pd_y_10 rfl (st := []) rfl rfl (G := []) rfl rfl ?_
          rintro _ _ ⟨rfl, rfl⟩
          obtain ⟨x996, hx997⟩ : ∃ x, own_cntL 0 6 2 [(own_cl c0), (own_cl c1), (own_cl c2), (own_cl c3), (own_cl c4), (own_cl c5)] = x := ⟨_, rfl⟩
          rw [show own_cntN 0 6 2 (own_cl c0) (own_cl c1) (own_cl c2) (own_cl c3) (own_cl c4) (own_cl c5) = x996 from hx997]
          show Goes _ _ _ _ _ _ _ _ _ _ _ _ _ _ _ _ _ _ [(b, oC6 c0 c1 c2 c3 c4 c5)] 0 0 (mkF m 83 #[.val (.ref b), .val (.int (6 : Int32)), .val (.int (0 : Int32)), .val (.int (Int32.ofNat x990)), .val (.int (Int32.ofNat x993)), .unset, .unset, .unset, .unset] [.int (Int32.ofNat x996)])
          have B995 : x996 ≤ 15 := hx997 ▸ Nat.le_trans (own_cntN_le _ _ _ _ _ _ _ _ _) (by decide)
          refine Goes.run X [(.istore 5, 2), (.iload_n 3, 1), (.iconst 1, 1)] (L' := #[.val (.ref b), .val (.int (6 : Int32)), .val (.int (0 : Int32)), .val (.int (Int32.ofNat x990)), .val (.int (Int32.ofNat x993)), .val (.int (Int32.ofNat x996)), .unset, .unset, .unset]) (S' := [.int (1 : Int32), .int (Int32.ofNat x990)]) (pc' := 87) rfl ?_
          refine Goes.if2 X (pc' := 102) (o := 15) (cd := .gt) (fun q998 => ?_) (fun q998 => ?_)
          · have h999 := own_sT (own_s1 _ B989) q998
            refine Goes.runS X [(.iconst 0, 1)] (S' := [.int (0 : Int32)]) (pc' := 103) rfl ?_
            refine Goes.retI X (by simp) rfl ?_
            exact ⟨by rw [ha, own_refA]; (try simp only [hx978, hx991, hx994, hx997, Nat.reduceSub, Nat.reduceAdd]); (repeat' split) <;> first | rfl | (exfalso; omega), rfl⟩
          · have h1000 := own_sF (own_s1 _ B989) q998
            refine Goes.runS X [(.iload 4, 2), (.iconst 1, 1)] (S' := [.int (1 : Int32), .int (Int32.ofNat x993)]) (pc' := 93) rfl ?_
            refine Goes.if2 X (pc' := 102) (o := 9) (cd := .gt) (fun q1001 => ?_) (fun q1001 => ?_)
            · have h1002 := own_sT (own_s1 _ B992) q1001
              refine Goes.runS X [(.iconst 0, 1)] (S' := [.int (0 : Int32)]) (pc' := 103) rfl ?_
              refine Goes.retI X (by simp) rfl ?_
              exact ⟨by rw [ha, own_refA]; (try simp only [hx978, hx991, hx994, hx997, Nat.reduceSub, Nat.reduceAdd]); (repeat' split) <;> first | rfl | (exfalso; omega), rfl⟩
            · have h1003 := own_sF (own_s1 _ B992) q1001
              refine Goes.runS X [(.iload 5, 2), (.iconst 1, 1)] (S' := [.int (1 : Int32), .int (Int32.ofNat x996)]) (pc' := 99) rfl ?_
              refine Goes.if2 X (pc' := 104) (o := 5) (cd := .le) (fun q1004 => ?_) (fun q1004 => ?_)
              · have h1005 := own_sT (own_s1' _ B995) q1004
                refine Goes.runS X [(.aload_n 0, 1), (.iconst 0, 1), (.iload_n 1, 1), (.iconst 0, 1)] (S' := [.int (0 : Int32), .int (6 : Int32), .int (0 : Int32), .ref b]) (pc' := 108) rfl ?_
                refine Goes.callS X 0 [0] [] (D_pos0 l Z a0 h0 hw b c0 c1 c2 c3 c4 c5 0 6 (by decide) (by decide)) (wd hw 118 rfl) (wd hw 119 rfl) (wd hw 4 rfl) (wd hw 120 rfl) pd_y_20 rfl (st := []) rfl rfl (G := []) rfl rfl ?_
                rintro _ _ ⟨rfl, rfl⟩
                obtain ⟨x1007, hx1008⟩ : ∃ x, own_posL 0 6 0 [(own_cl c0), (own_cl c1), (own_cl c2), (own_cl c3), (own_cl c4), (own_cl c5)] = x := ⟨_, rfl⟩
                rw [show own_posN 0 6 0 (own_cl c1) (own_cl c2) (own_cl c3) (own_cl c4) (own_cl c5) = x1007 from hx1008]
                show Goes _ _ _ _ _ _ _ _ _ _ _ _ _ _ _ _ _ _ [(b, oC6 c0 c1 c2 c3 c4 c5)] 0 0 (mkF m 111 #[.val (.ref b), .val (.int (6 : Int32)), .val (.int (0 : Int32)), .val (.int (Int32.ofNat x990)), .val (.int (Int32.ofNat x993)), .val (.int (Int32.ofNat x996)), .unset, .unset, .unset] [.int (Int32.ofNat x1007)])
                have B1006 : x1007 ≤ 15 := hx1008 ▸ own_posN_le _ _ _ _ _ _ _ _
                refine Goes.run X [(.istore 6, 2), (.aload_n 0, 1), (.iconst 0, 1), (.iload_n 1, 1), (.iconst 1, 1)] (L' := #[.val (.ref b), .val (.int (6 : Int32)), .val (.int (0 : Int32)), .val (.int (Int32.ofNat x990)), .val (.int (Int32.ofNat x993)), .val (.int (Int32.ofNat x996)), .val (.int (Int32.ofNat x1007)), .unset, .unset]) (S' := [.int (1 : Int32), .int (6 : Int32), .int (0 : Int32), .ref b]) (pc' := 117) rfl ?_
                refine Goes.callS X 0 [0] [] (D_pos1 l Z a0 h0 hw b c0 c1 c2 c3 c4 c5 0 6 (by decide) (by decide)) (wd hw 118 rfl) (wd hw 119 rfl) (wd hw 4 rfl) (wd hw 120 rfl) pd_y_20 rfl (st := []) rfl rfl (G := []) rfl rfl ?_
                rintro _ _ ⟨rfl, rfl⟩
                obtain ⟨x1010, hx1011⟩ : ∃ x, own_posL 0 6 1 [(own_cl c0), (own_cl c1), (own_cl c2), (own_cl c3), (own_cl c4), (own_cl c5)] = x := ⟨_, rfl⟩
                rw [show own_posN 0 6 1 (own_cl c1) (own_cl c2) (own_cl c3) (own_cl c4) (own_cl c5) = x1010 from hx1011]
                show Goes _ _ _ _ _ _ _ _ _ _ _ _ _ _ _ _ _ _ [(b, oC6 c0 c1 c2 c3 c4 c5)] 0 0 (mkF m 120 #[.val (.ref b), .val (.int (6 : Int32)), .val (.int (0 : Int32)), .val (.int (Int32.ofNat x990)), .val (.int (Int32.ofNat x993)), .val (.int (Int32.ofNat x996)), .val (.int (Int32.ofNat x1007)), .unset, .unset] [.int (Int32.ofNat x1010)])
                have B1009 : x1010 ≤ 15 := hx1011 ▸ own_posN_le _ _ _ _ _ _ _ _
                refine Goes.run X [(.istore 7, 2), (.aload_n 0, 1), (.iload_n 2, 1), (.iload_n 1, 1), (.iconst 2, 1)] (L' := #[.val (.ref b), .val (.int (6 : Int32)), .val (.int (0 : Int32)), .val (.int (Int32.ofNat x990)), .val (.int (Int32.ofNat x993)), .val (.int (Int32.ofNat x996)), .val (.int (Int32.ofNat x1007)), .val (.int (Int32.ofNat x1010)), .unset]) (S' := [.int (2 : Int32), .int (6 : Int32), .int (0 : Int32), .ref b]) (pc' := 126) rfl ?_
                refine Goes.callS X 0 [0] [] (D_pos2 l Z a0 h0 hw b c0 c1 c2 c3 c4 c5 0 6 (by decide) (by decide)) (wd hw 118 rfl) (wd hw 119 rfl) (wd hw 4 rfl) (wd hw 120 rfl) pd_y_20 rfl (st := []) rfl rfl (G := []) rfl rfl ?_
                rintro _ _ ⟨rfl, rfl⟩
                obtain ⟨x1013, hx1014⟩ : ∃ x, own_posL 0 6 2 [(own_cl c0), (own_cl c1), (own_cl c2), (own_cl c3), (own_cl c4), (own_cl c5)] = x := ⟨_, rfl⟩
                rw [show own_posN 0 6 2 (own_cl c1) (own_cl c2) (own_cl c3) (own_cl c4) (own_cl c5) = x1013 from hx1014]
                show Goes _ _ _ _ _ _ _ _ _ _ _ _ _ _ _ _ _ _ [(b, oC6 c0 c1 c2 c3 c4 c5)] 0 0 (mkF m 129 #[.val (.ref b), .val (.int (6 : Int32)), .val (.int (0 : Int32)), .val (.int (Int32.ofNat x990)), .val (.int (Int32.ofNat x993)), .val (.int (Int32.ofNat x996)), .val (.int (Int32.ofNat x1007)), .val (.int (Int32.ofNat x1010)), .unset] [.int (Int32.ofNat x1013)])
                have B1012 : x1013 ≤ 15 := hx1014 ▸ own_posN_le _ _ _ _ _ _ _ _
                refine Goes.run X [(.istore 8, 2), (.iload 5, 2), (.iconst 1, 1)] (L' := #[.val (.ref b), .val (.int (6 : Int32)), .val (.int (0 : Int32)), .val (.int (Int32.ofNat x990)), .val (.int (Int32.ofNat x993)), .val (.int (Int32.ofNat x996)), .val (.int (Int32.ofNat x1007)), .val (.int (Int32.ofNat x1010)), .val (.int (Int32.ofNat x1013))]) (S' := [.int (1 : Int32), .int (Int32.ofNat x996)]) (pc' := 134) rfl ?_
                have J3 : ∀ (g1 : ¬ (x996 = 1 ∧ (x993 = 0 ∨ ¬ x1013 = x1010 + 1))) (g2 : ¬ (x990 = 1 ∧ x993 = 1 ∧ x1010 < x1007)), Goes p l e ({ frames := 4, cells := 0, slots := 0, locals := 58 } : Room) s m args below meth c Z a0 h0 h ([(b, oC6 c0 c1 c2 c3 c4 c5)].map (·.1)) ({ frames := 4, cells := 0, slots := 0, locals := 58 } : Room).cells ({ frames := 4, cells := 0, slots := 0, locals := 58 } : Room).slots (fun v F => v = some (.int (Int32.ofNat (own_refN 6 [(own_cl c0), (own_cl c1), (own_cl c2), (own_cl c3), (own_cl c4), (own_cl c5)]))) ∧ F = [(b, oC6 c0 c1 c2 c3 c4 c5)]) [(b, oC6 c0 c1 c2 c3 c4 c5)] 0 0 (mkF m 173 #[.val (.ref b), .val (.int (6 : Int32)), .val (.int (0 : Int32)), .val (.int (Int32.ofNat x990)), .val (.int (Int32.ofNat x993)), .val (.int (Int32.ofNat x996)), .val (.int (Int32.ofNat x1007)), .val (.int (Int32.ofNat x1010)), .val (.int (Int32.ofNat x1013))] []) := by
                  intro g1 g2
                  refine Goes.runS X [(.iload_n 3, 1), (.iconst 1, 1)] (S' := [.int (1 : Int32), .int (Int32.ofNat x990)]) (pc' := 175) rfl ?_
                  refine Goes.if2 X (pc' := 200) (o := 25) (cd := .ne) (fun q1015 => ?_) (fun q1015 => ?_)
                  · have h1016 := own_sT (own_s2 _ B989) q1015
                    refine Goes.runS X [(.iconst 1, 1)] (S' := [.int (1 : Int32)]) (pc' := 201) rfl ?_
                    refine Goes.retI X (by simp) rfl ?_
                    exact ⟨by rw [ha, own_refA]; (try simp only [hx978, hx991, hx994, hx997, hx1008, hx1011, hx1014, Nat.reduceSub, Nat.reduceAdd]); (repeat' split) <;> first | rfl | (exfalso; omega), rfl⟩
                  · have h1017 := own_sF (own_s2 _ B989) q1015
                    have h1017 := Classical.not_not.mp h1017
                    refine Goes.runS X [(.iload 6, 2), (.iconst 1, 1), (.iadd, 1), (.iload_n 1, 1)] (S' := [.int (6 : Int32), .int ((Int32.ofNat x1007) + (1 : Int32))]) (pc' := 183) rfl ?_
                    refine Goes.if2 X (pc' := 198) (o := 15) (cd := .ge) (fun q1018 => ?_) (fun q1018 => ?_)
                    · have h1019 := own_sT (own_s5 6 (by decide) _ B1006) q1018
                      refine Goes.runS X [(.iconst 0, 1)] (S' := [.int (0 : Int32)]) (pc' := 199) rfl ?_
                      refine Goes.retI X (by simp) rfl ?_
                      exact ⟨by rw [ha, own_refA]; (try simp only [hx978, hx991, hx994, hx997, hx1008, hx1011, hx1014, Nat.reduceSub, Nat.reduceAdd]); (repeat' split) <;> first | rfl | (exfalso; omega), rfl⟩
                    · have h1020 := own_sF (own_s5 6 (by decide) _ B1006) q1018
                      have h1020 := Classical.not_not.mp h1020
                      refine Goes.runS X [(.aload_n 0, 1), (.iload 6, 2), (.iconst 1, 1), (.iadd, 1)] (S' := [.int ((Int32.ofNat x1007) + (1 : Int32)), .ref b]) (pc' := 191) rfl ?_
                      have z1021 : x1007 = 0 ∨ x1007 = 1 ∨ x1007 = 2 ∨ x1007 = 3 ∨ x1007 = 4 := by omega
                      rcases z1021 with z1021 | z1021 | z1021 | z1021 | z1021
                      · rw [z1021]
                        show Goes _ _ _ _ _ _ _ _ _ _ _ _ _ _ _ _ _ _ [(b, oC6 c0 c1 c2 c3 c4 c5)] 0 0 (mkF m 191 #[.val (.ref b), .val (.int (6 : Int32)), .val (.int (0 : Int32)), .val (.int (Int32.ofNat x990)), .val (.int (Int32.ofNat x993)), .val (.int (Int32.ofNat x996)), .val (.int (Int32.ofNat 0)), .val (.int (Int32.ofNat x1010)), .val (.int (Int32.ofNat x1013))] [.int ((Int32.ofNat 0) + (1 : Int32)), .ref b])
                        refine Goes.caload X 0 1 rfl (by decide) (by decide) rfl ?_
                        refine Goes.callS X 0 [] [0] (D_dg l Z a0 h0 hw c1) (wd hw 86 rfl) (wd hw 87 rfl) (wd hw 4 rfl) (wd hw 88 rfl) pd_y_13 rfl (st := []) rfl rfl (G := [(b, oC6 c0 c1 c2 c3 c4 c5)]) rfl rfl ?_
                        rintro _ _ ⟨rfl, rfl⟩
                        refine Goes.if1 X (pc' := 200) (o := 5) (cd := .ne) (fun q1022 => ?_) (fun q1022 => ?_)
                        · have h1023 : ¬ own_dig c1 = 0 := by simpa [ifCond.holds] using q1022
                          have g1024 : own_g [(own_cl c0), (own_cl c1), (own_cl c2), (own_cl c3), (own_cl c4), (own_cl c5)] 1 = 4 := by show own_cl c1 = 4; rw [own_cl4]; simpa using h1023
                          refine Goes.runS X [(.iconst 1, 1)] (S' := [.int (1 : Int32)]) (pc' := 201) rfl ?_
                          refine Goes.retI X (by simp) rfl ?_
                          exact ⟨by rw [ha, own_refA]; (try simp only [hx978, hx991, hx994, hx997, hx1008, hx1011, hx1014, z1021, Nat.reduceSub, Nat.reduceAdd]); (repeat' split) <;> first | rfl | (exfalso; omega), rfl⟩
                        · have h1025 : own_dig c1 = 0 := by simpa [ifCond.holds] using q1022
                          have g1026 : ¬ own_g [(own_cl c0), (own_cl c1), (own_cl c2), (own_cl c3), (own_cl c4), (own_cl c5)] 1 = 4 := by show ¬ own_cl c1 = 4; rw [own_cl4]; simpa using h1025
                          refine Goes.runS X [(.iconst 0, 1)] (S' := [.int (0 : Int32)]) (pc' := 199) rfl ?_
                          refine Goes.retI X (by simp) rfl ?_
                          exact ⟨by rw [ha, own_refA]; (try simp only [hx978, hx991, hx994, hx997, hx1008, hx1011, hx1014, z1021, Nat.reduceSub, Nat.reduceAdd]); (repeat' split) <;> first | rfl | (exfalso; omega), rfl⟩
                      · rw [z1021]
                        show Goes _ _ _ _ _ _ _ _ _ _ _ _ _ _ _ _ _ _ [(b, oC6 c0 c1 c2 c3 c4 c5)] 0 0 (mkF m 191 #[.val (.ref b), .val (.int (6 : Int32)), .val (.int (0 : Int32)), .val (.int (Int32.ofNat x990)), .val (.int (Int32.ofNat x993)), .val (.int (Int32.ofNat x996)), .val (.int (Int32.ofNat 1)), .val (.int (Int32.ofNat x1010)), .val (.int (Int32.ofNat x1013))] [.int ((Int32.ofNat 1) + (1 : Int32)), .ref b])
                        refine Goes.caload X 0 2 rfl (by decide) (by decide) rfl ?_
                        refine Goes.callS X 0 [] [0] (D_dg l Z a0 h0 hw c2) (wd hw 86 rfl) (wd hw 87 rfl) (wd hw 4 rfl) (wd hw 88 rfl) pd_y_13 rfl (st := []) rfl rfl (G := [(b, oC6 c0 c1 c2 c3 c4 c5)]) rfl rfl ?_
                        rintro _ _ ⟨rfl, rfl⟩
                        refine Goes.if1 X (pc' := 200) (o := 5) (cd := .ne) (fun q1027 => ?_) (fun q1027 => ?_)
                        · have h1028 : ¬ own_dig c2 = 0 := by simpa [ifCond.holds] using q1027
                          have g1029 : own_g [(own_cl c0), (own_cl c1), (own_cl c2), (own_cl c3), (own_cl c4), (own_cl c5)] 2 = 4 := by show own_cl c2 = 4; rw [own_cl4]; simpa using h1028
                          refine Goes.runS X [(.iconst 1, 1)] (S' := [.int (1 : Int32)]) (pc' := 201) rfl ?_
                          refine Goes.retI X (by simp) rfl ?_
                          exact ⟨by rw [ha, own_refA]; (try simp only [hx978, hx991, hx994, hx997, hx1008, hx1011, hx1014, z1021, Nat.reduceSub, Nat.reduceAdd]); (repeat' split) <;> first | rfl | (exfalso; omega), rfl⟩
                        · have h1030 : own_dig c2 = 0 := by simpa [ifCond.holds] using q1027
                          have g1031 : ¬ own_g [(own_cl c0), (own_cl c1), (own_cl c2), (own_cl c3), (own_cl c4), (own_cl c5)] 2 = 4 := by show ¬ own_cl c2 = 4; rw [own_cl4]; simpa using h1030
                          refine Goes.runS X [(.iconst 0, 1)] (S' := [.int (0 : Int32)]) (pc' := 199) rfl ?_
                          refine Goes.retI X (by simp) rfl ?_
                          exact ⟨by rw [ha, own_refA]; (try simp only [hx978, hx991, hx994, hx997, hx1008, hx1011, hx1014, z1021, Nat.reduceSub, Nat.reduceAdd]); (repeat' split) <;> first | rfl | (exfalso; omega), rfl⟩
                      · rw [z1021]
                        show Goes _ _ _ _ _ _ _ _ _ _ _ _ _ _ _ _ _ _ [(b, oC6 c0 c1 c2 c3 c4 c5)] 0 0 (mkF m 191 #[.val (.ref b), .val (.int (6 : Int32)), .val (.int (0 : Int32)), .val (.int (Int32.ofNat x990)), .val (.int (Int32.ofNat x993)), .val (.int (Int32.ofNat x996)), .val (.int (Int32.ofNat 2)), .val (.int (Int32.ofNat x1010)), .val (.int (Int32.ofNat x1013))] [.int ((Int32.ofNat 2) + (1 : Int32)), .ref b])
                        refine Goes.caload X 0 3 rfl (by decide) (by decide) rfl ?_
                        refine Goes.callS X 0 [] [0] (D_dg l Z a0 h0 hw c3) (wd hw 86 rfl) (wd hw 87 rfl) (wd hw 4 rfl) (wd hw 88 rfl) pd_y_13 rfl (st := []) rfl rfl (G := [(b, oC6 c0 c1 c2 c3 c4 c5)]) rfl rfl ?_
                        rintro _ _ ⟨rfl, rfl⟩
                        refine Goes.if1 X (pc' := 200) (o := 5) (cd := .ne) (fun q1032 => ?_) (fun q1032 => ?_)
                        · have h1033 : ¬ own_dig c3 = 0 := by simpa [ifCond.holds] using q1032
                          have g1034 : own_g [(own_cl c0), (own_cl c1), (own_cl c2), (own_cl c3), (own_cl c4), (own_cl c5)] 3 = 4 := by show own_cl c3 = 4; rw [own_cl4]; simpa using h1033
                          refine Goes.runS X [(.iconst 1, 1)] (S' := [.int (1 : Int32)]) (pc' := 201) rfl ?_
                          refine Goes.retI X (by simp) rfl ?_
                          exact ⟨by rw [ha, own_refA]; (try simp only [hx978, hx991, hx994, hx997, hx1008, hx1011, hx1014, z1021, Nat.reduceSub, Nat.reduceAdd]); (repeat' split) <;> first | rfl | (exfalso; omega), rfl⟩
                        · have h1035 : own_dig c3 = 0 := by simpa [ifCond.holds] using q1032
                          have g1036 : ¬ own_g [(own_cl c0), (own_cl c1), (own_cl c2), (own_cl c3), (own_cl c4), (own_cl c5)] 3 = 4 := by show ¬ own_cl c3 = 4; rw [own_cl4]; simpa using h1035
                          refine Goes.runS X [(.iconst 0, 1)] (S' := [.int (0 : Int32)]) (pc' := 199) rfl ?_
                          refine Goes.retI X (by simp) rfl ?_
                          exact ⟨by rw [ha, own_refA]; (try simp only [hx978, hx991, hx994, hx997, hx1008, hx1011, hx1014, z1021, Nat.reduceSub, Nat.reduceAdd]); (repeat' split) <;> first | rfl | (exfalso; omega), rfl⟩
                      · rw [z1021]
                        show Goes _ _ _ _ _ _ _ _ _ _ _ _ _ _ _ _ _ _ [(b, oC6 c0 c1 c2 c3 c4 c5)] 0 0 (mkF m 191 #[.val (.ref b), .val (.int (6 : Int32)), .val (.int (0 : Int32)), .val (.int (Int32.ofNat x990)), .val (.int (Int32.ofNat x993)), .val (.int (Int32.ofNat x996)), .val (.int (Int32.ofNat 3)), .val (.int (Int32.ofNat x1010)), .val (.int (Int32.ofNat x1013))] [.int ((Int32.ofNat 3) + (1 : Int32)), .ref b])
                        refine Goes.caload X 0 4 rfl (by decide) (by decide) rfl ?_
                        refine Goes.callS X 0 [] [0] (D_dg l Z a0 h0 hw c4) (wd hw 86 rfl) (wd hw 87 rfl) (wd hw 4 rfl) (wd hw 88 rfl) pd_y_13 rfl (st := []) rfl rfl (G := [(b, oC6 c0 c1 c2 c3 c4 c5)]) rfl rfl ?_
                        rintro _ _ ⟨rfl, rfl⟩
                        refine Goes.if1 X (pc' := 200) (o := 5) (cd := .ne) (fun q1037 => ?_) (fun q1037 => ?_)
                        · have h1038 : ¬ own_dig c4 = 0 := by simpa [ifCond.holds] using q1037
                          have g1039 : own_g [(own_cl c0), (own_cl c1), (own_cl c2), (own_cl c3), (own_cl c4), (own_cl c5)] 4 = 4 := by show own_cl c4 = 4; rw [own_cl4]; simpa using h1038
                          refine Goes.runS X [(.iconst 1, 1)] (S' := [.int (1 : Int32)]) (pc' := 201) rfl ?_
                          refine Goes.retI X (by simp) rfl ?_
                          exact ⟨by rw [ha, own_refA]; (try simp only [hx978, hx991, hx994, hx997, hx1008, hx1011, hx1014, z1021, Nat.reduceSub, Nat.reduceAdd]); (repeat' split) <;> first | rfl | (exfalso; omega), rfl⟩
                        · have h1040 : own_dig c4 = 0 := by simpa [ifCond.holds] using q1037
                          have g1041 : ¬ own_g [(own_cl c0), (own_cl c1), (own_cl c2), (own_cl c3), (own_cl c4), (own_cl c5)] 4 = 4 := by show ¬ own_cl c4 = 4; rw [own_cl4]; simpa using h1040
                          refine Goes.runS X [(.iconst 0, 1)] (S' := [.int (0 : Int32)]) (pc' := 199) rfl ?_
                          refine Goes.retI X (by simp) rfl ?_
                          exact ⟨by rw [ha, own_refA]; (try simp only [hx978, hx991, hx994, hx997, hx1008, hx1011, hx1014, z1021, Nat.reduceSub, Nat.reduceAdd]); (repeat' split) <;> first | rfl | (exfalso; omega), rfl⟩
                      · rw [z1021]
                        show Goes _ _ _ _ _ _ _ _ _ _ _ _ _ _ _ _ _ _ [(b, oC6 c0 c1 c2 c3 c4 c5)] 0 0 (mkF m 191 #[.val (.ref b), .val (.int (6 : Int32)), .val (.int (0 : Int32)), .val (.int (Int32.ofNat x990)), .val (.int (Int32.ofNat x993)), .val (.int (Int32.ofNat x996)), .val (.int (Int32.ofNat 4)), .val (.int (Int32.ofNat x1010)), .val (.int (Int32.ofNat x1013))] [.int ((Int32.ofNat 4) + (1 : Int32)), .ref b])
                        refine Goes.caload X 0 5 rfl (by decide) (by decide) rfl ?_
                        refine Goes.callS X 0 [] [0] (D_dg l Z a0 h0 hw c5) (wd hw 86 rfl) (wd hw 87 rfl) (wd hw 4 rfl) (wd hw 88 rfl) pd_y_13 rfl (st := []) rfl rfl (G := [(b, oC6 c0 c1 c2 c3 c4 c5)]) rfl rfl ?_
                        rintro _ _ ⟨rfl, rfl⟩
                        refine Goes.if1 X (pc' := 200) (o := 5) (cd := .ne) (fun q1042 => ?_) (fun q1042 => ?_)
                        · have h1043 : ¬ own_dig c5 = 0 := by simpa [ifCond.holds] using q1042
                          have g1044 : own_g [(own_cl c0), (own_cl c1), (own_cl c2), (own_cl c3), (own_cl c4), (own_cl c5)] 5 = 4 := by show own_cl c5 = 4; rw [own_cl4]; simpa using h1043
                          refine Goes.runS X [(.iconst 1, 1)] (S' := [.int (1 : Int32)]) (pc' := 201) rfl ?_
                          refine Goes.retI X (by simp) rfl ?_
                          exact ⟨by rw [ha, own_refA]; (try simp only [hx978, hx991, hx994, hx997, hx1008, hx1011, hx1014, z1021, Nat.reduceSub, Nat.reduceAdd]); (repeat' split) <;> first | rfl | (exfalso; omega), rfl⟩
                        · have h1045 : own_dig c5 = 0 := by simpa [ifCond.holds] using q1042
                          have g1046 : ¬ own_g [(own_cl c0), (own_cl c1), (own_cl c2), (own_cl c3), (own_cl c4), (own_cl c5)] 5 = 4 := by show ¬ own_cl c5 = 4; rw [own_cl4]; simpa using h1045
                          refine Goes.runS X [(.iconst 0, 1)] (S' := [.int (0 : Int32)]) (pc' := 199) rfl ?_
                          refine Goes.retI X (by simp) rfl ?_
                          exact ⟨by rw [ha, own_refA]; (try simp only [hx978, hx991, hx994, hx997, hx1008, hx1011, hx1014, z1021, Nat.reduceSub, Nat.reduceAdd]); (repeat' split) <;> first | rfl | (exfalso; omega), rfl⟩
                have J2 : ∀ (g1 : ¬ (x996 = 1 ∧ (x993 = 0 ∨ ¬ x1013 = x1010 + 1))), Goes p l e ({ frames := 4, cells := 0, slots := 0, locals := 58 } : Room) s m args below meth c Z a0 h0 h ([(b, oC6 c0 c1 c2 c3 c4 c5)].map (·.1)) ({ frames := 4, cells := 0, slots := 0, locals := 58 } : Room).cells ({ frames := 4, cells := 0, slots := 0, locals := 58 } : Room).slots (fun v F => v = some (.int (Int32.ofNat (own_refN 6 [(own_cl c0), (own_cl c1), (own_cl c2), (own_cl c3), (own_cl c4), (own_cl c5)]))) ∧ F = [(b, oC6 c0 c1 c2 c3 c4 c5)]) [(b, oC6 c0 c1 c2 c3 c4 c5)] 0 0 (mkF m 153 #[.val (.ref b), .val (.int (6 : Int32)), .val (.int (0 : Int32)), .val (.int (Int32.ofNat x990)), .val (.int (Int32.ofNat x993)), .val (.int (Int32.ofNat x996)), .val (.int (Int32.ofNat x1007)), .val (.int (Int32.ofNat x1010)), .val (.int (Int32.ofNat x1013))] []) := by
                  intro g1
                  refine Goes.runS X [(.iload_n 3, 1), (.iconst 1, 1)] (S' := [.int (1 : Int32), .int (Int32.ofNat x990)]) (pc' := 155) rfl ?_
                  refine Goes.if2 X (pc' := 173) (o := 18) (cd := .ne) (fun q1047 => ?_) (fun q1047 => ?_)
                  · have h1048 := own_sT (own_s2 _ B989) q1047
                    exact J3 g1 (fun z => h1048 z.1)
                  · have h1049 := own_sF (own_s2 _ B989) q1047
                    have h1049 := Classical.not_not.mp h1049
                    refine Goes.runS X [(.iload 4, 2), (.iconst 1, 1)] (S' := [.int (1 : Int32), .int (Int32.ofNat x993)]) (pc' := 161) rfl ?_
                    refine Goes.if2 X (pc' := 173) (o := 12) (cd := .ne) (fun q1050 => ?_) (fun q1050 => ?_)
                    · have h1051 := own_sT (own_s2 _ B992) q1050
                      exact J3 g1 (fun z => h1051 z.2.1)
                    · have h1052 := own_sF (own_s2 _ B992) q1050
                      have h1052 := Classical.not_not.mp h1052
                      refine Goes.runS X [(.iload 6, 2), (.iload 7, 2)] (S' := [.int (Int32.ofNat x1010), .int (Int32.ofNat x1007)]) (pc' := 168) rfl ?_
                      refine Goes.if2 X (pc' := 173) (o := 5) (cd := .le) (fun q1053 => ?_) (fun q1053 => ?_)
                      · have h1054 := own_sT (own_s4 _ B1006 _ B1009) q1053
                        exact J3 g1 (fun z => h1054 z.2.2)
                      · have h1055 := own_sF (own_s4 _ B1006 _ B1009) q1053
                        have h1055 := Classical.not_not.mp h1055
                        refine Goes.runS X [(.iconst 0, 1)] (S' := [.int (0 : Int32)]) (pc' := 172) rfl ?_
                        refine Goes.retI X (by simp) rfl ?_
                        exact ⟨by rw [ha, own_refA]; (try simp only [hx978, hx991, hx994, hx997, hx1008, hx1011, hx1014, Nat.reduceSub, Nat.reduceAdd]); (repeat' split) <;> first | rfl | (exfalso; omega), rfl⟩
                refine Goes.if2 X (pc' := 153) (o := 19) (cd := .ne) (fun q1056 => ?_) (fun q1056 => ?_)
                · have h1057 := own_sT (own_s2 _ B995) q1056
                  exact J2 (fun z => h1057 z.1)
                · have h1058 := own_sF (own_s2 _ B995) q1056
                  have h1058 := Classical.not_not.mp h1058
                  refine Goes.runS X [(.iload 4, 2)] (S' := [.int (Int32.ofNat x993)]) (pc' := 139) rfl ?_
                  refine Goes.if1 X (pc' := 151) (o := 12) (cd := .eq) (fun q1059 => ?_) (fun q1059 => ?_)
                  · have h1060 := own_sT (own_s0 _ B992) q1059
                    refine Goes.runS X [(.iconst 0, 1)] (S' := [.int (0 : Int32)]) (pc' := 152) rfl ?_
                    refine Goes.retI X (by simp) rfl ?_
                    exact ⟨by rw [ha, own_refA]; (try simp only [hx978, hx991, hx994, hx997, hx1008, hx1011, hx1014, Nat.reduceSub, Nat.reduceAdd]); (repeat' split) <;> first | rfl | (exfalso; omega), rfl⟩
                  · have h1061 := own_sF (own_s0 _ B992) q1059
                    refine Goes.runS X [(.iload 8, 2), (.iload 7, 2), (.iconst 1, 1), (.iadd, 1)] (S' := [.int ((Int32.ofNat x1010) + (1 : Int32)), .int (Int32.ofNat x1013)]) (pc' := 148) rfl ?_
                    refine Goes.if2 X (pc' := 153) (o := 5) (cd := .eq) (fun q1062 => ?_) (fun q1062 => ?_)
                    · have h1063 := own_sT (own_s3 _ B1012 _ B1009) q1062
                      exact J2 (fun z => z.2.elim h1061 (fun y => y h1063))
                    · have h1064 := own_sF (own_s3 _ B1012 _ B1009) q1062
                      refine Goes.runS X [(.iconst 0, 1)] (S' := [.int (0 : Int32)]) (pc' := 152) rfl ?_
                      refine Goes.retI X (by simp) rfl ?_
                      exact ⟨by rw [ha, own_refA]; (try simp only [hx978, hx991, hx994, hx997, hx1008, hx1011, hx1014, Nat.reduceSub, Nat.reduceAdd]); (repeat' split) <;> first | rfl | (exfalso; omega), rfl⟩
              · have h1065 := own_sF (own_s1' _ B995) q1004
                have h1065 := Classical.not_not.mp h1065
                refine Goes.runS X [(.iconst 0, 1)] (S' := [.int (0 : Int32)]) (pc' := 103) rfl ?_
                refine Goes.retI X (by simp) rfl ?_
                exact ⟨by rw [ha, own_refA]; (try simp only [hx978, hx991, hx994, hx997, Nat.reduceSub, Nat.reduceAdd]); (repeat' split) <;> first | rfl | (exfalso; omega), rfl⟩
        · have h1066 : own_dig c5 = 0 := by simpa [ifCond.holds] using q986
          have g1067 : ¬ own_g [(own_cl c0), (own_cl c1), (own_cl c2), (own_cl c3), (own_cl c4), (own_cl c5)] 5 = 4 := by show ¬ own_cl c5 = 4; rw [own_cl4]; simpa using h1066
          refine Goes.runS X [(.iconst 0, 1)] (S' := [.int (0 : Int32)]) (pc' := 58) rfl ?_
          refine Goes.retI X (by simp) rfl ?_
          exact ⟨by rw [ha, own_refA]; (try simp only [hx978, Nat.reduceSub, Nat.reduceAdd]); (repeat' split) <;> first | rfl | (exfalso; omega), rfl⟩
    · have h1068 := own_sF (own_s0 _ B976) q979
      refine Goes.runS X [(.iconst 0, 1)] (S' := [.int (0 : Int32)]) (pc' := 36) rfl ?_
      refine Goes.retI X (by simp) rfl ?_
      exact ⟨by rw [ha, own_refA_x (by rw [hx978]; omega)] <;> rfl, rfl⟩
  · have h1069 : c0 = 45 := by simpa [if_icmp.holds] using q974
    have ha : own_refN 6 [(own_cl c0), (own_cl c1), (own_cl c2), (own_cl c3), (own_cl c4), (own_cl c5)] = own_refA 6 1 [(own_cl c0), (own_cl c1), (own_cl c2), (own_cl c3), (own_cl c4), (own_cl c5)] := congrArg (fun z => own_refA 6 z [(own_cl c0), (own_cl c1), (own_cl c2), (own_cl c3), (own_cl c4), (own_cl c5)]) (if_pos ⟨by decide, (own_cl0 _).mpr h1069⟩)
    refine Goes.runS X [(.iconst 1, 1)] (S' := [.int (1 : Int32)]) (pc' := 13) rfl ?_
    refine Goes.goto X (o := 4) (pc' := 17) ?_
    refine Goes.run X [(.istore_n 2, 1), (.iload_n 1, 1), (.iload_n 2, 1)] (L' := #[.val (.ref b), .val (.int (6 : Int32)), .val (.int (1 : Int32)), .unset, .unset, .unset, .unset, .unset, .unset]) (S' := [.int (1 : Int32), .int (6 : Int32)]) (pc' := 20) rfl ?_
    refine Goes.if2 X (pc' := 25) (o := 5) (cd := .gt) (fun _ => ?_) (fun q => absurd q (by decide))
    refine Goes.runS X [(.aload_n 0, 1), (.iconst 0, 1), (.iload_n 1, 1), (.iconst 3, 1)] (S' := [.int (3 : Int32), .int (6 : Int32), .int (0 : Int32), .ref b]) (pc' := 29) rfl ?_
    refine Goes.callS X 0 [0] [] (D_cnt3 l Z a0 h0 hw b c0 c1 c2 c3 c4 c5 0 6 (by decide) (by decide)) (wd hw 77 rfl) (wd hw 78 rfl) (wd hw 4 rfl) (wd hw 79 rfl) pd_y_10 rfl (st := []) rfl rfl (G := []) rfl rfl ?_
    rintro _ _ ⟨rfl, rfl⟩
    obtain ⟨x1071, hx1072⟩ : ∃ x, own_cntL 0 6 3 [(own_cl c0), (own_cl c1), (own_cl c2), (own_cl c3), (own_cl c4), (own_cl c5)] = x := ⟨_, rfl⟩
    rw [show own_cntN 0 6 3 (own_cl c0) (own_cl c1) (own_cl c2) (own_cl c3) (own_cl c4) (own_cl c5) = x1071 from hx1072]
    show Goes _ _ _ _ _ _ _ _ _ _ _ _ _ _ _ _ _ _ [(b, oC6 c0 c1 c2 c3 c4 c5)] 0 0 (mkF m 32 #[.val (.ref b), .val (.int (6 : Int32)), .val (.int (1 : Int32)), .unset, .unset, .unset, .unset, .unset, .unset] [.int (Int32.ofNat x1071)])
    have B1070 : x1071 ≤ 15 := hx1072 ▸ Nat.le_trans (own_cntN_le _ _ _ _ _ _ _ _ _) (by decide)
    refine Goes.if1 X (pc' := 37) (o := 5) (cd := .eq) (fun q1073 => ?_) (fun q1073 => ?_)
    · have h1074 := own_sT (own_s0 _ B1070) q1073
      refine Goes.runS X [(.aload_n 0, 1), (.iload_n 2, 1)] (S' := [.int (1 : Int32), .ref b]) (pc' := 39) rfl ?_
      refine Goes.caload X 0 1 rfl (by decide) (by decide) rfl ?_
      refine Goes.callS X 0 [] [0] (D_dg l Z a0 h0 hw c1) (wd hw 86 rfl) (wd hw 87 rfl) (wd hw 4 rfl) (wd hw 88 rfl) pd_y_13 rfl (st := []) rfl rfl (G := [(b, oC6 c0 c1 c2 c3 c4 c5)]) rfl rfl ?_
      rintro _ _ ⟨rfl, rfl⟩
      refine Goes.if1 X (pc' := 57) (o := 14) (cd := .eq) (fun q1075 => ?_) (fun q1075 => ?_)
      · have h1076 : own_dig c1 = 0 := by simpa [ifCond.holds] using q1075
        have g1077 : ¬ own_g [(own_cl c0), (own_cl c1), (own_cl c2), (own_cl c3), (own_cl c4), (own_cl c5)] 1 = 4 := by show ¬ own_cl c1 = 4; rw [own_cl4]; simpa using h1076
        refine Goes.runS X [(.iconst 0, 1)] (S' := [.int (0 : Int32)]) (pc' := 58) rfl ?_
        refine Goes.retI X (by simp) rfl ?_
        exact ⟨by rw [ha, own_refA]; (try simp only [hx1072, Nat.reduceSub, Nat.reduceAdd]); (repeat' split) <;> first | rfl | (exfalso; omega), rfl⟩
      · have h1078 : ¬ own_dig c1 = 0 := by simpa [ifCond.holds] using q1075
        have g1079 : own_g [(own_cl c0), (own_cl c1), (own_cl c2), (own_cl c3), (own_cl c4), (own_cl c5)] 1 = 4 := by show own_cl c1 = 4; rw [own_cl4]; simpa using h1078
        refine Goes.runS X [(.aload_n 0, 1), (.iload_n 1, 1), (.iconst 1, 1), (.isub, 1)] (S' := [.int (5 : Int32), .ref b]) (pc' := 50) rfl ?_
        refine Goes.caload X 0 5 rfl (by decide) (by decide) rfl ?_
        refine Goes.callS X 0 [] [0] (D_dg l Z a0 h0 hw c5) (wd hw 86 rfl) (wd hw 87 rfl) (wd hw 4 rfl) (wd hw 88 rfl) pd_y_13 rfl (st := []) rfl rfl (G := [(b, oC6 c0 c1 c2 c3 c4 c5)]) rfl rfl ?_
        rintro _ _ ⟨rfl, rfl⟩
        refine Goes.if1 X (pc' := 59) (o := 5) (cd := .ne) (fun q1080 => ?_) (fun q1080 => ?_)
        · have h1081 : ¬ own_dig c5 = 0 := by simpa [ifCond.holds] using q1080
          have g1082 : own_g [(own_cl c0), (own_cl c1), (own_cl c2), (own_cl c3), (own_cl c4), (own_cl c5)] 5 = 4 := by show own_cl c5 = 4; rw [own_cl4]; simpa using h1081
          refine Goes.runS X [(.aload_n 0, 1), (.iconst 0, 1), (.iload_n 1, 1), (.iconst 0, 1)] (S' := [.int (0 : Int32), .int (6 : Int32), .int (0 : Int32), .ref b]) (pc' := 63) rfl ?_
          refine Goes.callS X 0 [0] [] (D_cnt0 l Z a0 h0 hw b c0 c1 c2 c3 c4 c5 0 6 (by decide) (by decide)) (wd hw 77 rfl) (wd hw 78 rfl) (wd hw 4 rfl) (wd hw 79 rfl) pd_y_10 rfl (st := []) rfl rfl (G := []) rfl rfl ?_
          rintro _ _ ⟨rfl, rfl⟩
          obtain ⟨x1084, hx1085⟩ : ∃ x, own_cntL 0 6 0 [(own_cl c0), (own_cl c1), (own_cl c2), (own_cl c3), (own_cl c4), (own_cl c5)] = x := ⟨_, rfl⟩
          rw [show own_cntN 0 6 0 (own_cl c0) (own_cl c1) (own_cl c2) (own_cl c3) (own_cl c4) (own_cl c5) = x1084 from hx1085]
          show Goes _ _ _ _ _ _ _ _ _ _ _ _ _ _ _ _ _ _ [(b, oC6 c0 c1 c2 c3 c4 c5)] 0 0 (mkF m 66 #[.val (.ref b), .val (.int (6 : Int32)), .val (.int (1 : Int32)), .unset, .unset, .unset, .unset, .unset, .unset] [.int (Int32.ofNat x1084)])
          have B1083 : x1084 ≤ 15 := hx1085 ▸ Nat.le_trans (own_cntN_le _ _ _ _ _ _ _ _ _) (by decide)
          refine Goes.run X [(.istore_n 3, 1), (.aload_n 0, 1), (.iconst 0, 1), (.iload_n 1, 1), (.iconst 1, 1)] (L' := #[.val (.ref b), .val (.int (6 : Int32)), .val (.int (1 : Int32)), .val (.int (Int32.ofNat x1084)), .unset, .unset, .unset, .unset, .unset]) (S' := [.int (1 : Int32), .int (6 : Int32), .int (0 : Int32), .ref b]) (pc' := 71) rfl ?_
          refine Goes.callS X 0 [0] [] (D_cnt1 l Z a0 h0 hw b c0 c1 c2 c3 c4 c5 0 6 (by decide) (by decide)) (wd hw 77 rfl) (wd hw 78 rfl) (wd hw 4 rfl) (wd hw 79 rfl) pd_y_10 rfl (st := []) rfl rfl (G := []) rfl rfl ?_
          rintro _ _ ⟨rfl, rfl⟩
          obtain ⟨x1087, hx1088⟩ : ∃ x, own_cntL 0 6 1 [(own_cl c0), (own_cl c1), (own_cl c2), (own_cl c3), (own_cl c4), (own_cl c5)] = x := ⟨_, rfl⟩
          rw [show own_cntN 0 6 1 (own_cl c0) (own_cl c1) (own_cl c2) (own_cl c3) (own_cl c4) (own_cl c5) = x1087 from hx1088]
          show Goes _ _ _ _ _ _ _ _ _ _ _ _ _ _ _ _ _ _ [(b, oC6 c0 c1 c2 c3 c4 c5)] 0 0 (mkF m 74 #[.val (.ref b), .val (.int (6 : Int32)), .val (.int (1 : Int32)), .val (.int (Int32.ofNat x1084)), .unset, .unset, .unset, .unset, .unset] [.int (Int32.ofNat x1087)])
          have B1086 : x1087 ≤ 15 := hx1088 ▸ Nat.le_trans (own_cntN_le _ _ _ _ _ _ _ _ _) (by decide)
          refine Goes.run X [(.istore 4, 2), (.aload_n 0, 1), (.iload_n 2, 1), (.iload_n 1, 1), (.iconst 2, 1)] (L' := #[.val (.ref b), .val (.int (6 : Int32)), .val (.int (1 : Int32)), .val (.int (Int32.ofNat x1084)), .val (.int (Int32.ofNat x1087)), .unset, .unset, .unset, .unset]) (S' := [.int (2 : Int32), .int (6 : Int32), .int (1 : Int32), .ref b]) (pc' := 80) rfl ?_
          refine Goes.callS X 0 [0] [] (D_cnt2 l Z a0 h0 hw b c0 c1 c2 c3 c4 c5 1 6 (by decide) (by decide)) (wd hw 77 rfl) (wd hw 78 rfl) (wd hw 4 rfl) (wd hw 79 rfl) pd_y_10 rfl (st := []) rfl rfl (G := []) rfl rfl ?_
          rintro _ _ ⟨rfl, rfl⟩
          obtain ⟨x1090, hx1091⟩ : ∃ x, own_cntL 1 6 2 [(own_cl c0), (own_cl c1), (own_cl c2), (own_cl c3), (own_cl c4), (own_cl c5)] = x := ⟨_, rfl⟩
          rw [show own_cntN 1 6 2 (own_cl c0) (own_cl c1) (own_cl c2) (own_cl c3) (own_cl c4) (own_cl c5) = x1090 from hx1091]
          show Goes _ _ _ _ _ _ _ _ _ _ _ _ _ _ _ _ _ _ [(b, oC6 c0 c1 c2 c3 c4 c5)] 0 0 (mkF m 83 #[.val (.ref b), .val (.int (6 : Int32)), .val (.int (1 : Int32)), .val (.int (Int32.ofNat x1084)), .val (.int (Int32.ofNat x1087)), .unset, .unset, .unset, .unset] [.int (Int32.ofNat x1090)])
          have B1089 : x1090 ≤ 15 := hx1091 ▸ Nat.le_trans (own_cntN_le _ _ _ _ _ _ _ _ _) (by decide)
          refine Goes.run X [(.istore 5, 2), (.iload_n 3, 1), (.iconst 1, 1)] (L' := #[.val (.ref b), .val (.int (6 : Int32)), .val (.int (1 : Int32)), .val (.int (Int32.ofNat x1084)), .val (.int (Int32.ofNat x1087)), .val (.int (Int32.ofNat x1090)), .unset, .unset, .unset]) (S' := [.int (1 : Int32), .int (Int32.ofNat x1084)]) (pc' := 87) rfl ?_
          refine Goes.if2 X (pc' := 102) (o := 15) (cd := .gt) (fun q1092 => ?_) (fun q1092 => ?_)
          · have h1093 := own_sT (own_s1 _ B1083) q1092
            refine Goes.runS X [(.iconst 0, 1)] (S' := [.int (0 : Int32)]) (pc' := 103) rfl ?_
            refine Goes.retI X (by simp) rfl ?_
            exact ⟨by rw [ha, own_refA]; (try simp only [hx1072, hx1085, hx1088, hx1091, Nat.reduceSub, Nat.reduceAdd]); (repeat' split) <;> first | rfl | (exfalso; omega), rfl⟩
          · have h1094 := own_sF (own_s1 _ B1083) q1092
            refine Goes.runS X [(.iload 4, 2), (.iconst 1, 1)] (S' := [.int (1 : Int32), .int (Int32.ofNat x1087)]) (pc' := 93) rfl ?_
            refine Goes.if2 X (pc' := 102) (o := 9) (cd := .gt) (fun q1095 => ?_) (fun q1095 => ?_)
            · have h1096 := own_sT (own_s1 _ B1086) q1095
              refine Goes.runS X [(.iconst 0, 1)] (S' := [.int (0 : Int32)]) (pc' := 103) rfl ?_
              refine Goes.retI X (by simp) rfl ?_
              exact ⟨by rw [ha, own_refA]; (try simp only [hx1072, hx1085, hx1088, hx1091, Nat.reduceSub, Nat.reduceAdd]); (repeat' split) <;> first | rfl | (exfalso; omega), rfl⟩
            · have h1097 := own_sF (own_s1 _ B1086) q1095
              refine Goes.runS X [(.iload 5, 2), (.iconst 1, 1)] (S' := [.int (1 : Int32), .int (Int32.ofNat x1090)]) (pc' := 99) rfl ?_
              refine Goes.if2 X (pc' := 104) (o := 5) (cd := .le) (fun q1098 => ?_) (fun q1098 => ?_)
              · have h1099 := own_sT (own_s1' _ B1089) q1098
                refine Goes.runS X [(.aload_n 0, 1), (.iconst 0, 1), (.iload_n 1, 1), (.iconst 0, 1)] (S' := [.int (0 : Int32), .int (6 : Int32), .int (0 : Int32), .ref b]) (pc' := 108) rfl ?_
                refine Goes.callS X 0 [0] [] (D_pos0 l Z a0 h0 hw b c0 c1 c2 c3 c4 c5 0 6 (by decide) (by decide)) (wd hw 118 rfl) (wd hw 119 rfl) (wd hw 4 rfl) (wd hw 120 rfl) pd_y_20 rfl (st := []) rfl rfl (G := []) rfl rfl ?_
                rintro _ _ ⟨rfl, rfl⟩
                obtain ⟨x1101, hx1102⟩ : ∃ x, own_posL 0 6 0 [(own_cl c0), (own_cl c1), (own_cl c2), (own_cl c3), (own_cl c4), (own_cl c5)] = x := ⟨_, rfl⟩
                rw [show own_posN 0 6 0 (own_cl c1) (own_cl c2) (own_cl c3) (own_cl c4) (own_cl c5) = x1101 from hx1102]
                show Goes _ _ _ _ _ _ _ _ _ _ _ _ _ _ _ _ _ _ [(b, oC6 c0 c1 c2 c3 c4 c5)] 0 0 (mkF m 111 #[.val (.ref b), .val (.int (6 : Int32)), .val (.int (1 : Int32)), .val (.int (Int32.ofNat x1084)), .val (.int (Int32.ofNat x1087)), .val (.int (Int32.ofNat x1090)), .unset, .unset, .unset] [.int (Int32.ofNat x1101)])
                have B1100 : x1101 ≤ 15 := hx1102 ▸ own_posN_le _ _ _ _ _ _ _ _
                refine Goes.run X [(.istore 6, 2), (.aload_n 0, 1), (.iconst 0, 1), (.iload_n 1, 1), (.iconst 1, 1)] (L' := #[.val (.ref b), .val (.int (6 : Int32)), .val (.int (1 : Int32)), .val (.int (Int32.ofNat x1084)), .val (.int (Int32.ofNat x1087)), .val (.int (Int32.ofNat x1090)), .val (.int (Int32.ofNat x1101)), .unset, .unset]) (S' := [.int (1 : Int32), .int (6 : Int32), .int (0 : Int32), .ref b]) (pc' := 117) rfl ?_
                refine Goes.callS X 0 [0] [] (D_pos1 l Z a0 h0 hw b c0 c1 c2 c3 c4 c5 0 6 (by decide) (by decide)) (wd hw 118 rfl) (wd hw 119 rfl) (wd hw 4 rfl) (wd hw 120 rfl) pd_y_20 rfl (st := []) rfl rfl (G := []) rfl rfl ?_
                rintro _ _ ⟨rfl, rfl⟩
                obtain ⟨x1104, hx1105⟩ : ∃ x, own_posL 0 6 1 [(own_cl c0), (own_cl c1), (own_cl c2), (own_cl c3), (own_cl c4), (own_cl c5)] = x := ⟨_, rfl⟩
                rw [show own_posN 0 6 1 (own_cl c1) (own_cl c2) (own_cl c3) (own_cl c4) (own_cl c5) = x1104 from hx1105]
                show Goes _ _ _ _ _ _ _ _ _ _ _ _ _ _ _ _ _ _ [(b, oC6 c0 c1 c2 c3 c4 c5)] 0 0 (mkF m 120 #[.val (.ref b), .val (.int (6 : Int32)), .val (.int (1 : Int32)), .val (.int (Int32.ofNat x1084)), .val (.int (Int32.ofNat x1087)), .val (.int (Int32.ofNat x1090)), .val (.int (Int32.ofNat x1101)), .unset, .unset] [.int (Int32.ofNat x1104)])
                have B1103 : x1104 ≤ 15 := hx1105 ▸ own_posN_le _ _ _ _ _ _ _ _
                refine Goes.run X [(.istore 7, 2), (.aload_n 0, 1), (.iload_n 2, 1), (.iload_n 1, 1), (.iconst 2, 1)] (L' := #[.val (.ref b), .val (.int (6 : Int32)), .val (.int (1 : Int32)), .val (.int (Int32.ofNat x1084)), .val (.int (Int32.ofNat x1087)), .val (.int (Int32.ofNat x1090)), .val (.int (Int32.ofNat x1101)), .val (.int (Int32.ofNat x1104)), .unset]) (S' := [.int (2 : Int32), .int (6 : Int32), .int (1 : Int32), .ref b]) (pc' := 126) rfl ?_
                refine Goes.callS X 0 [0] [] (D_pos2 l Z a0 h0 hw b c0 c1 c2 c3 c4 c5 1 6 (by decide) (by decide)) (wd hw 118 rfl) (wd hw 119 rfl) (wd hw 4 rfl) (wd hw 120 rfl) pd_y_20 rfl (st := []) rfl rfl (G := []) rfl rfl ?_
                rintro _ _ ⟨rfl, rfl⟩
                obtain ⟨x1107, hx1108⟩ : ∃ x, own_posL 1 6 2 [(own_cl c0), (own_cl c1), (own_cl c2), (own_cl c3), (own_cl c4), (own_cl c5)] = x := ⟨_, rfl⟩
                rw [show own_posN 1 6 2 (own_cl c1) (own_cl c2) (own_cl c3) (own_cl c4) (own_cl c5) = x1107 from hx1108]
                show Goes _ _ _ _ _ _ _ _ _ _ _ _ _ _ _ _ _ _ [(b, oC6 c0 c1 c2 c3 c4 c5)] 0 0 (mkF m 129 #[.val (.ref b), .val (.int (6 : Int32)), .val (.int (1 : Int32)), .val (.int (Int32.ofNat x1084)), .val (.int (Int32.ofNat x1087)), .val (.int (Int32.ofNat x1090)), .val (.int (Int32.ofNat x1101)), .val (.int (Int32.ofNat x1104)), .unset] [.int (Int32.ofNat x1107)])
                have B1106 : x1107 ≤ 15 := hx1108 ▸ own_posN_le _ _ _ _ _ _ _ _
                refine Goes.run X [(.istore 8, 2), (.iload 5, 2), (.iconst 1, 1)] (L' := #[.val (.ref b), .val (.int (6 : Int32)), .val (.int (1 : Int32)), .val (.int (Int32.ofNat x1084)), .val (.int (Int32.ofNat x1087)), .val (.int (Int32.ofNat x1090)), .val (.int (Int32.ofNat x1101)), .val (.int (Int32.ofNat x1104)), .val (.int (Int32.ofNat x1107))]) (S' := [.int (1 : Int32), .int (Int32.ofNat x1090)]) (pc' := 134) rfl ?_
                have J3 : ∀ (g1 : ¬ (x1090 = 1 ∧ (x1087 = 0 ∨ ¬ x1107 = x1104 + 1))) (g2 : ¬ (x1084 = 1 ∧ x1087 = 1 ∧ x1104 < x1101)), Goes p l e ({ frames := 4, cells := 0, slots := 0, locals := 58 } : Room) s m args below meth c Z a0 h0 h ([(b, oC6 c0 c1 c2 c3 c4 c5)].map (·.1)) ({ frames := 4, cells := 0, slots := 0, locals := 58 } : Room).cells ({ frames := 4, cells := 0, slots := 0, locals := 58 } : Room).slots (fun v F => v = some (.int (Int32.ofNat (own_refN 6 [(own_cl c0), (own_cl c1), (own_cl c2), (own_cl c3), (own_cl c4), (own_cl c5)]))) ∧ F = [(b, oC6 c0 c1 c2 c3 c4 c5)]) [(b, oC6 c0 c1 c2 c3 c4 c5)] 0 0 (mkF m 173 #[.val (.ref b), .val (.int (6 : Int32)), .val (.int (1 : Int32)), .val (.int (Int32.ofNat x1084)), .val (.int (Int32.ofNat x1087)), .val (.int (Int32.ofNat x1090)), .val (.int (Int32.ofNat x1101)), .val (.int (Int32.ofNat x1104)), .val (.int (Int32.ofNat x1107))] []) := by
                  intro g1 g2
                  refine Goes.runS X [(.iload_n 3, 1), (.iconst 1, 1)] (S' := [.int (1 : Int32), .int (Int32.ofNat x1084)]) (pc' := 175) rfl ?_
                  refine Goes.if2 X (pc' := 200) (o := 25) (cd := .ne) (fun q1109 => ?_) (fun q1109 => ?_)
                  · have h1110 := own_sT (own_s2 _ B1083) q1109
                    refine Goes.runS X [(.iconst 1, 1)] (S' := [.int (1 : Int32)]) (pc' := 201) rfl ?_
                    refine Goes.retI X (by simp) rfl ?_
                    exact ⟨by rw [ha, own_refA]; (try simp only [hx1072, hx1085, hx1088, hx1091, hx1102, hx1105, hx1108, Nat.reduceSub, Nat.reduceAdd]); (repeat' split) <;> first | rfl | (exfalso; omega), rfl⟩
                  · have h1111 := own_sF (own_s2 _ B1083) q1109
                    have h1111 := Classical.not_not.mp h1111
                    refine Goes.runS X [(.iload 6, 2), (.iconst 1, 1), (.iadd, 1), (.iload_n 1, 1)] (S' := [.int (6 : Int32), .int ((Int32.ofNat x1101) + (1 : Int32))]) (pc' := 183) rfl ?_
                    refine Goes.if2 X (pc' := 198) (o := 15) (cd := .ge) (fun q1112 => ?_) (fun q1112 => ?_)
                    · have h1113 := own_sT (own_s5 6 (by decide) _ B1100) q1112
                      refine Goes.runS X [(.iconst 0, 1)] (S' := [.int (0 : Int32)]) (pc' := 199) rfl ?_
                      refine Goes.retI X (by simp) rfl ?_
                      exact ⟨by rw [ha, own_refA]; (try simp only [hx1072, hx1085, hx1088, hx1091, hx1102, hx1105, hx1108, Nat.reduceSub, Nat.reduceAdd]); (repeat' split) <;> first | rfl | (exfalso; omega), rfl⟩
                    · have h1114 := own_sF (own_s5 6 (by decide) _ B1100) q1112
                      have h1114 := Classical.not_not.mp h1114
                      refine Goes.runS X [(.aload_n 0, 1), (.iload 6, 2), (.iconst 1, 1), (.iadd, 1)] (S' := [.int ((Int32.ofNat x1101) + (1 : Int32)), .ref b]) (pc' := 191) rfl ?_
                      have z1115 : x1101 = 0 ∨ x1101 = 1 ∨ x1101 = 2 ∨ x1101 = 3 ∨ x1101 = 4 := by omega
                      rcases z1115 with z1115 | z1115 | z1115 | z1115 | z1115
                      · rw [z1115]
                        show Goes _ _ _ _ _ _ _ _ _ _ _ _ _ _ _ _ _ _ [(b, oC6 c0 c1 c2 c3 c4 c5)] 0 0 (mkF m 191 #[.val (.ref b), .val (.int (6 : Int32)), .val (.int (1 : Int32)), .val (.int (Int32.ofNat x1084)), .val (.int (Int32.ofNat x1087)), .val (.int (Int32.ofNat x1090)), .val (.int (Int32.ofNat 0)), .val (.int (Int32.ofNat x1104)), .val (.int (Int32.ofNat x1107))] [.int ((Int32.ofNat 0) + (1 : Int32)), .ref b])
                        refine Goes.caload X 0 1 rfl (by decide) (by decide) rfl ?_
                        refine Goes.callS X 0 [] [0] (D_dg l Z a0 h0 hw c1) (wd hw 86 rfl) (wd hw 87 rfl) (wd hw 4 rfl) (wd hw 88 rfl) pd_y_13 rfl (st := []) rfl rfl (G := [(b, oC6 c0 c1 c2 c3 c4 c5)]) rfl rfl ?_
                        rintro _ _ ⟨rfl, rfl⟩
                        refine Goes.if1 X (pc' := 200) (o := 5) (cd := .ne) (fun q1116 => ?_) (fun q1116 => ?_)
                        · have h1117 : ¬ own_dig c1 = 0 := by simpa [ifCond.holds] using q1116
                          have g1118 : own_g [(own_cl c0), (own_cl c1), (own_cl c2), (own_cl c3), (own_cl c4), (own_cl c5)] 1 = 4 := by show own_cl c1 = 4; rw [own_cl4]; simpa using h1117
                          refine Goes.runS X [(.iconst 1, 1)] (S' := [.int (1 : Int32)]) (pc' := 201) rfl ?_
                          refine Goes.retI X (by simp) rfl ?_
                          exact ⟨by rw [ha, own_refA]; (try simp only [hx1072, hx1085, hx1088, hx1091, hx1102, hx1105, hx1108, z1115, Nat.reduceSub, Nat.reduceAdd]); (repeat' split) <;> first | rfl | (exfalso; omega), rfl⟩
                        · have h1119 : own_dig c1 = 0 := by simpa [ifCond.holds] using q1116
                          have g1120 : ¬ own_g [(own_cl c0), (own_cl c1), (own_cl c2), (own_cl c3), (own_cl c4), (own_cl c5)] 1 = 4 := by show ¬ own_cl c1 = 4; rw [own_cl4]; simpa using h1119
                          refine Goes.runS X [(.iconst 0, 1)] (S' := [.int (0 : Int32)]) (pc' := 199) rfl ?_
                          refine Goes.retI X (by simp) rfl ?_
                          exact ⟨by rw [ha, own_refA]; (try simp only [hx1072, hx1085, hx1088, hx1091, hx1102, hx1105, hx1108, z1115, Nat.reduceSub, Nat.reduceAdd]); (repeat' split) <;> first | rfl | (exfalso; omega), rfl⟩
                      · rw [z1115]
                        show Goes _ _ _ _ _ _ _ _ _ _ _ _ _ _ _ _ _ _ [(b, oC6 c0 c1 c2 c3 c4 c5)] 0 0 (mkF m 191 #[.val (.ref b), .val (.int (6 : Int32)), .val (.int (1 : Int32)), .val (.int (Int32.ofNat x1084)), .val (.int (Int32.ofNat x1087)), .val (.int (Int32.ofNat x1090)), .val (.int (Int32.ofNat 1)), .val (.int (Int32.ofNat x1104)), .val (.int (Int32.ofNat x1107))] [.int ((Int32.ofNat 1) + (1 : Int32)), .ref b])
                        refine Goes.caload X 0 2 rfl (by decide) (by decide) rfl ?_
                        refine Goes.callS X 0 [] [0] (D_dg l Z a0 h0 hw c2) (wd hw 86 rfl) (wd hw 87 rfl) (wd hw 4 rfl) (wd hw 88 rfl) pd_y_13 rfl (st := []) rfl rfl (G := [(b, oC6 c0 c1 c2 c3 c4 c5)]) rfl rfl ?_
                        rintro _ _ ⟨rfl, rfl⟩
                        refine Goes.if1 X (pc' := 200) (o := 5) (cd := .ne) (fun q1121 => ?_) (fun q1121 => ?_)
                        · have h1122 : ¬ own_dig c2 = 0 := by simpa [ifCond.holds] using q1121
                          have g1123 : own_g [(own_cl c0), (own_cl c1), (own_cl c2), (own_cl c3), (own_cl c4), (own_cl c5)] 2 = 4 := by show own_cl c2 = 4; rw [own_cl4]; simpa using h1122
                          refine Goes.runS X [(.iconst 1, 1)] (S' := [.int (1 : Int32)]) (pc' := 201) rfl ?_
                          refine Goes.retI X (by simp) rfl ?_
                          exact ⟨by rw [ha, own_refA]; (try simp only [hx1072, hx1085, hx1088, hx1091, hx1102, hx1105, hx1108, z1115, Nat.reduceSub, Nat.reduceAdd]); (repeat' split) <;> first | rfl | (exfalso; omega), rfl⟩
                        · have h1124 : own_dig c2 = 0 := by simpa [ifCond.holds] using q1121
                          have g1125 : ¬ own_g [(own_cl c0), (own_cl c1), (own_cl c2), (own_cl c3), (own_cl c4), (own_cl c5)] 2 = 4 := by show ¬ own_cl c2 = 4; rw [own_cl4]; simpa using h1124
                          refine Goes.runS X [(.iconst 0, 1)] (S' := [.int (0 : Int32)]) (pc' := 199) rfl ?_
                          refine Goes.retI X (by simp) rfl ?_
                          exact ⟨by rw [ha, own_refA]; (try simp only [hx1072, hx1085, hx1088, hx1091, hx1102, hx1105, hx1108, z1115, Nat.reduceSub, Nat.reduceAdd]); (repeat' split) <;> first | rfl | (exfalso; omega), rfl⟩
                      · rw [z1115]
                        show Goes _ _ _ _ _ _ _ _ _ _ _ _ _ _ _ _ _ _ [(b, oC6 c0 c1 c2 c3 c4 c5)] 0 0 (mkF m 191 #[.val (.ref b), .val (.int (6 : Int32)), .val (.int (1 : Int32)), .val (.int (Int32.ofNat x1084)), .val (.int (Int32.ofNat x1087)), .val (.int (Int32.ofNat x1090)), .val (.int (Int32.ofNat 2)), .val (.int (Int32.ofNat x1104)), .val (.int (Int32.ofNat x1107))] [.int ((Int32.ofNat 2) + (1 : Int32)), .ref b])
                        refine Goes.caload X 0 3 rfl (by decide) (by decide) rfl ?_
                        refine Goes.callS X 0 [] [0] (D_dg l Z a0 h0 hw c3) (wd hw 86 rfl) (wd hw 87 rfl) (wd hw 4 rfl) (wd hw 88 rfl) pd_y_13 rfl (st := []) rfl rfl (G := [(b, oC6 c0 c1 c2 c3 c4 c5)]) rfl rfl ?_
                        rintro _ _ ⟨rfl, rfl⟩
                        refine Goes.if1 X (pc' := 200) (o := 5) (cd := .ne) (fun q1126 => ?_) (fun q1126 => ?_)
                        · have h1127 : ¬ own_dig c3 = 0 := by simpa [ifCond.holds] using q1126
                          have g1128 : own_g [(own_cl c0), (own_cl c1), (own_cl c2), (own_cl c3), (own_cl c4), (own_cl c5)] 3 = 4 := by show own_cl c3 = 4; rw [own_cl4]; simpa using h1127
                          refine Goes.runS X [(.iconst 1, 1)] (S' := [.int (1 : Int32)]) (pc' := 201) rfl ?_
                          refine Goes.retI X (by simp) rfl ?_
                          exact ⟨by rw [ha, own_refA]; (try simp only [hx1072, hx1085, hx1088, hx1091, hx1102, hx1105, hx1108, z1115, Nat.reduceSub, Nat.reduceAdd]); (repeat' split) <;> first | rfl | (exfalso; omega), rfl⟩
                        · have h1129 : own_dig c3 = 0 := by simpa [ifCond.holds] using q1126
                          have g1130 : ¬ own_g [(own_cl c0), (own_cl c1), (own_cl c2), (own_cl c3), (own_cl c4), (own_cl c5)] 3 = 4 := by show ¬ own_cl c3 = 4; rw [own_cl4]; simpa using h1129
                          refine Goes.runS X [(.iconst 0, 1)] (S' := [.int (0 : Int32)]) (pc' := 199) rfl ?_
                          refine Goes.retI X (by simp) rfl ?_
                          exact ⟨by rw [ha, own_refA]; (try simp only [hx1072, hx1085, hx1088, hx1091, hx1102, hx1105, hx1108, z1115, Nat.reduceSub, Nat.reduceAdd]); (repeat' split) <;> first | rfl | (exfalso; omega), rfl⟩
                      · rw [z1115]
                        show Goes _ _ _ _ _ _ _ _ _ _ _ _ _ _ _ _ _ _ [(b, oC6 c0 c1 c2 c3 c4 c5)] 0 0 (mkF m 191 #[.val (.ref b), .val (.int (6 : Int32)), .val (.int (1 : Int32)), .val (.int (Int32.ofNat x1084)), .val (.int (Int32.ofNat x1087)), .val (.int (Int32.ofNat x1090)), .val (.int (Int32.ofNat 3)), .val (.int (Int32.ofNat x1104)), .val (.int (Int32.ofNat x1107))] [.int ((Int32.ofNat 3) + (1 : Int32)), .ref b])
                        refine Goes.caload X 0 4 rfl (by decide) (by decide) rfl ?_
                        refine Goes.callS X 0 [] [0] (D_dg l Z a0 h0 hw c4) (wd hw 86 rfl) (wd hw 87 rfl) (wd hw 4 rfl) (wd hw 88 rfl) pd_y_13 rfl (st := []) rfl rfl (G := [(b, oC6 c0 c1 c2 c3 c4 c5)]) rfl rfl ?_
                        rintro _ _ ⟨rfl, rfl⟩
                        refine Goes.if1 X (pc' := 200) (o := 5) (cd := .ne) (fun q1131 => ?_) (fun q1131 => ?_)
                        · have h1132 : ¬ own_dig c4 = 0 := by simpa [ifCond.holds] using q1131
                          have g1133 : own_g [(own_cl c0), (own_cl c1), (own_cl c2), (own_cl c3), (own_cl c4), (own_cl c5)] 4 = 4 := by show own_cl c4 = 4; rw [own_cl4]; simpa using h1132
                          refine Goes.runS X [(.iconst 1, 1)] (S' := [.int (1 : Int32)]) (pc' := 201) rfl ?_
                          refine Goes.retI X (by simp) rfl ?_
                          exact ⟨by rw [ha, own_refA]; (try simp only [hx1072, hx1085, hx1088, hx1091, hx1102, hx1105, hx1108, z1115, Nat.reduceSub, Nat.reduceAdd]); (repeat' split) <;> first | rfl | (exfalso; omega), rfl⟩
                        · have h1134 : own_dig c4 = 0 := by simpa [ifCond.holds] using q1131
                          have g1135 : ¬ own_g [(own_cl c0), (own_cl c1), (own_cl c2), (own_cl c3), (own_cl c4), (own_cl c5)] 4 = 4 := by show ¬ own_cl c4 = 4; rw [own_cl4]; simpa using h1134
                          refine Goes.runS X [(.iconst 0, 1)] (S' := [.int (0 : Int32)]) (pc' := 199) rfl ?_
                          refine Goes.retI X (by simp) rfl ?_
                          exact ⟨by rw [ha, own_refA]; (try simp only [hx1072, hx1085, hx1088, hx1091, hx1102, hx1105, hx1108, z1115, Nat.reduceSub, Nat.reduceAdd]); (repeat' split) <;> first | rfl | (exfalso; omega), rfl⟩
                      · rw [z1115]
                        show Goes _ _ _ _ _ _ _ _ _ _ _ _ _ _ _ _ _ _ [(b, oC6 c0 c1 c2 c3 c4 c5)] 0 0 (mkF m 191 #[.val (.ref b), .val (.int (6 : Int32)), .val (.int (1 : Int32)), .val (.int (Int32.ofNat x1084)), .val (.int (Int32.ofNat x1087)), .val (.int (Int32.ofNat x1090)), .val (.int (Int32.ofNat 4)), .val (.int (Int32.ofNat x1104)), .val (.int (Int32.ofNat x1107))] [.int ((Int32.ofNat 4) + (1 : Int32)), .ref b])
                        refine Goes.caload X 0 5 rfl (by decide) (by decide) rfl ?_
                        refine Goes.callS X 0 [] [0] (D_dg l Z a0 h0 hw c5) (wd hw 86 rfl) (wd hw 87 rfl) (wd hw 4 rfl) (wd hw 88 rfl) pd_y_13 rfl (st := []) rfl rfl (G := [(b, oC6 c0 c1 c2 c3 c4 c5)]) rfl rfl ?_
                        rintro _ _ ⟨rfl, rfl⟩
                        refine Goes.if1 X (pc' := 200) (o := 5) (cd := .ne) (fun q1136 => ?_) (fun q1136 => ?_)
                        · have h1137 : ¬ own_dig c5 = 0 := by simpa [ifCond.holds] using q1136
                          have g1138 : own_g [(own_cl c0), (own_cl c1), (own_cl c2), (own_cl c3), (own_cl c4), (own_cl c5)] 5 = 4 := by show own_cl c5 = 4; rw [own_cl4]; simpa using h1137
                          refine Goes.runS X [(.iconst 1, 1)] (S' := [.int (1 : Int32)]) (pc' := 201) rfl ?_
                          refine Goes.retI X (by simp) rfl ?_
                          exact ⟨by rw [ha, own_refA]; (try simp only [hx1072, hx1085, hx1088, hx1091, hx1102, hx1105, hx1108, z1115, Nat.reduceSub, Nat.reduceAdd]); (repeat' split) <;> first | rfl | (exfalso; omega), rfl⟩
                        · have h1139 : own_dig c5 = 0 := by simpa [ifCond.holds] using q1136
                          have g1140 : ¬ own_g [(own_cl c0), (own_cl c1), (own_cl c2), (own_cl c3), (own_cl c4), (own_cl c5)] 5 = 4 := by show ¬ own_cl c5 = 4; rw [own_cl4]; simpa using h1139
                          refine Goes.runS X [(.iconst 0, 1)] (S' := [.int (0 : Int32)]) (pc' := 199) rfl ?_
                          refine Goes.retI X (by simp) rfl ?_
                          exact ⟨by rw [ha, own_refA]; (try simp only [hx1072, hx1085, hx1088, hx1091, hx1102, hx1105, hx1108, z1115, Nat.reduceSub, Nat.reduceAdd]); (repeat' split) <;> first | rfl | (exfalso; omega), rfl⟩
                have J2 : ∀ (g1 : ¬ (x1090 = 1 ∧ (x1087 = 0 ∨ ¬ x1107 = x1104 + 1))), Goes p l e ({ frames := 4, cells := 0, slots := 0, locals := 58 } : Room) s m args below meth c Z a0 h0 h ([(b, oC6 c0 c1 c2 c3 c4 c5)].map (·.1)) ({ frames := 4, cells := 0, slots := 0, locals := 58 } : Room).cells ({ frames := 4, cells := 0, slots := 0, locals := 58 } : Room).slots (fun v F => v = some (.int (Int32.ofNat (own_refN 6 [(own_cl c0), (own_cl c1), (own_cl c2), (own_cl c3), (own_cl c4), (own_cl c5)]))) ∧ F = [(b, oC6 c0 c1 c2 c3 c4 c5)]) [(b, oC6 c0 c1 c2 c3 c4 c5)] 0 0 (mkF m 153 #[.val (.ref b), .val (.int (6 : Int32)), .val (.int (1 : Int32)), .val (.int (Int32.ofNat x1084)), .val (.int (Int32.ofNat x1087)), .val (.int (Int32.ofNat x1090)), .val (.int (Int32.ofNat x1101)), .val (.int (Int32.ofNat x1104)), .val (.int (Int32.ofNat x1107))] []) := by
                  intro g1
                  refine Goes.runS X [(.iload_n 3, 1), (.iconst 1, 1)] (S' := [.int (1 : Int32), .int (Int32.ofNat x1084)]) (pc' := 155) rfl ?_
                  refine Goes.if2 X (pc' := 173) (o := 18) (cd := .ne) (fun q1141 => ?_) (fun q1141 => ?_)
                  · have h1142 := own_sT (own_s2 _ B1083) q1141
                    exact J3 g1 (fun z => h1142 z.1)
                  · have h1143 := own_sF (own_s2 _ B1083) q1141
                    have h1143 := Classical.not_not.mp h1143
                    refine Goes.runS X [(.iload 4, 2), (.iconst 1, 1)] (S' := [.int (1 : Int32), .int (Int32.ofNat x1087)]) (pc' := 161) rfl ?_
                    refine Goes.if2 X (pc' := 173) (o := 12) (cd := .ne) (fun q1144 => ?_) (fun q1144 => ?_)
                    · have h1145 := own_sT (own_s2 _ B1086) q1144
                      exact J3 g1 (fun z => h1145 z.2.1)
                    · have h1146 := own_sF (own_s2 _ B1086) q1144
                      have h1146 := Classical.not_not.mp h1146
                      refine Goes.runS X [(.iload 6, 2), (.iload 7, 2)] (S' := [.int (Int32.ofNat x1104), .int (Int32.ofNat x1101)]) (pc' := 168) rfl ?_
                      refine Goes.if2 X (pc' := 173) (o := 5) (cd := .le) (fun q1147 => ?_) (fun q1147 => ?_)
                      · have h1148 := own_sT (own_s4 _ B1100 _ B1103) q1147
                        exact J3 g1 (fun z => h1148 z.2.2)
                      · have h1149 := own_sF (own_s4 _ B1100 _ B1103) q1147
                        have h1149 := Classical.not_not.mp h1149
                        refine Goes.runS X [(.iconst 0, 1)] (S' := [.int (0 : Int32)]) (pc' := 172) rfl ?_
                        refine Goes.retI X (by simp) rfl ?_
                        exact ⟨by rw [ha, own_refA]; (try simp only [hx1072, hx1085, hx1088, hx1091, hx1102, hx1105, hx1108, Nat.reduceSub, Nat.reduceAdd]); (repeat' split) <;> first | rfl | (exfalso; omega), rfl⟩
                refine Goes.if2 X (pc' := 153) (o := 19) (cd := .ne) (fun q1150 => ?_) (fun q1150 => ?_)
                · have h1151 := own_sT (own_s2 _ B1089) q1150
                  exact J2 (fun z => h1151 z.1)
                · have h1152 := own_sF (own_s2 _ B1089) q1150
                  have h1152 := Classical.not_not.mp h1152
                  refine Goes.runS X [(.iload 4, 2)] (S' := [.int (Int32.ofNat x1087)]) (pc' := 139) rfl ?_
                  refine Goes.if1 X (pc' := 151) (o := 12) (cd := .eq) (fun q1153 => ?_) (fun q1153 => ?_)
                  · have h1154 := own_sT (own_s0 _ B1086) q1153
                    refine Goes.runS X [(.iconst 0, 1)] (S' := [.int (0 : Int32)]) (pc' := 152) rfl ?_
                    refine Goes.retI X (by simp) rfl ?_
                    exact ⟨by rw [ha, own_refA]; (try simp only [hx1072, hx1085, hx1088, hx1091, hx1102, hx1105, hx1108, Nat.reduceSub, Nat.reduceAdd]); (repeat' split) <;> first | rfl | (exfalso; omega), rfl⟩
                  · have h1155 := own_sF (own_s0 _ B1086) q1153
                    refine Goes.runS X [(.iload 8, 2), (.iload 7, 2), (.iconst 1, 1), (.iadd, 1)] (S' := [.int ((Int32.ofNat x1104) + (1 : Int32)), .int (Int32.ofNat x1107)]) (pc' := 148) rfl ?_
                    refine Goes.if2 X (pc' := 153) (o := 5) (cd := .eq) (fun q1156 => ?_) (fun q1156 => ?_)
                    · have h1157 := own_sT (own_s3 _ B1106 _ B1103) q1156
                      exact J2 (fun z => z.2.elim h1155 (fun y => y h1157))
                    · have h1158 := own_sF (own_s3 _ B1106 _ B1103) q1156
                      refine Goes.runS X [(.iconst 0, 1)] (S' := [.int (0 : Int32)]) (pc' := 152) rfl ?_
                      refine Goes.retI X (by simp) rfl ?_
                      exact ⟨by rw [ha, own_refA]; (try simp only [hx1072, hx1085, hx1088, hx1091, hx1102, hx1105, hx1108, Nat.reduceSub, Nat.reduceAdd]); (repeat' split) <;> first | rfl | (exfalso; omega), rfl⟩
              · have h1159 := own_sF (own_s1' _ B1089) q1098
                have h1159 := Classical.not_not.mp h1159
                refine Goes.runS X [(.iconst 0, 1)] (S' := [.int (0 : Int32)]) (pc' := 103) rfl ?_
                refine Goes.retI X (by simp) rfl ?_
                exact ⟨by rw [ha, own_refA]; (try simp only [hx1072, hx1085, hx1088, hx1091, Nat.reduceSub, Nat.reduceAdd]); (repeat' split) <;> first | rfl | (exfalso; omega), rfl⟩
        · have h1160 : own_dig c5 = 0 := by simpa [ifCond.holds] using q1080
          have g1161 : ¬ own_g [(own_cl c0), (own_cl c1), (own_cl c2), (own_cl c3), (own_cl c4), (own_cl c5)] 5 = 4 := by show ¬ own_cl c5 = 4; rw [own_cl4]; simpa using h1160
          refine Goes.runS X [(.iconst 0, 1)] (S' := [.int (0 : Int32)]) (pc' := 58) rfl ?_
          refine Goes.retI X (by simp) rfl ?_
          exact ⟨by rw [ha, own_refA]; (try simp only [hx1072, Nat.reduceSub, Nat.reduceAdd]); (repeat' split) <;> first | rfl | (exfalso; omega), rfl⟩
    · have h1162 := own_sF (own_s0 _ B1070) q1073
      refine Goes.runS X [(.iconst 0, 1)] (S' := [.int (0 : Int32)]) (pc' := 36) rfl ?_
      refine Goes.retI X (by simp) rfl ?_
      exact ⟨by rw [ha, own_refA_x (by rw [hx1072]; omega)] <;> rfl, rfl⟩
def own_dec (st en : Int32) : Int32 := if en = 0 then (if st = 2 ∨ st = 3 ∨ st = 5 ∨ st = 8 then 1 else 0) else 0
set_option maxRecDepth 65536 in
set_option maxHeartbeats 40000000 in
theorem D_dec (l : Launch) (Z : State) (a0 : Array Value) (h0 : Heap) (hw : ∀ d ∈ tables_1, d.before a0 Z = true) (d : Addr) (st en : Int32) (v2 v3 v4 v5 v6 v7 v8 v9 v10 : Value) : Does l Z a0 h0 y_4 prog_28_method_3_code 1 (some .boolean) ({ frames := 0, cells := 0, slots := 0, locals := 0 } : Room) #[.ref d] [(d, o_Dig (.int st) (.int en) (v2) (v3) (v4) (v5) (v6) (v7) (v8) (v9) (v10))] (fun v F => v = some (.int (own_dec st en)) ∧ F = [(d, o_Dig (.int st) (.int en) (v2) (v3) (v4) (v5) (v6) (v7) (v8) (v9) (v10))]) := by
  refine Does.mk #[.val (.ref d)] (plainFor_of_name (by decide +kernel)) (fun m => by first | (simp [entryFrame, mkF, argsToLocals, Value.category]; done) | rfl) ?_
  intro p e s m args below meth c h X
  show Goes _ _ _ _ _ _ _ _ _ _ _ _ _ _ _ _ _ _ [(d, o_Dig (.int st) (.int en) (v2) (v3) (v4) (v5) (v6) (v7) (v8) (v9) (v10))] 0 0 (mkF m 0 #[.val (.ref d)] [])
  refine Goes.runS X [(.aload_n 0, 1)] (S' := [.ref d]) (pc' := 1) rfl ?_
  refine Goes.getF X 0 1 rfl rfl (wd hw 51 rfl) Via.refl ?_
  refine Goes.if1 X (pc' := 44) (o := 40) (cd := .ne) (fun q1163 => ?_) (fun q1163 => ?_)
  · have h1164 : ¬ en = 0 := by simpa [ifCond.holds] using q1163
    refine Goes.runS X [(.iconst 0, 1)] (S' := [.int (0 : Int32)]) (pc' := 45) rfl ?_
    refine Goes.retI X (by simp) rfl ?_
    exact ⟨by simp [own_dec, h1164], rfl⟩
  · have h1165 : en = 0 := by simpa [ifCond.holds] using q1163
    refine Goes.runS X [(.aload_n 0, 1)] (S' := [.ref d]) (pc' := 8) rfl ?_
    refine Goes.getF X 0 0 rfl rfl (wd hw 16 rfl) Via.refl ?_
    refine Goes.runS X [(.iconst 2, 1)] (S' := [.int (2 : Int32), .int st]) (pc' := 12) rfl ?_
    refine Goes.if2 X (pc' := 40) (o := 28) (cd := .eq) (fun q1166 => ?_) (fun q1166 => ?_)
    · have h1167 : st = (2 : Int32) := by simpa [if_icmp.holds] using q1166
      refine Goes.runS X [(.iconst 1, 1)] (S' := [.int (1 : Int32)]) (pc' := 41) rfl ?_
      refine Goes.goto X (o := 4) (pc' := 45) ?_
      refine Goes.retI X (by simp) rfl ?_
      exact ⟨by simp [own_dec, h1165, h1167], rfl⟩
    · have h1168 : ¬ st = (2 : Int32) := by simpa [if_icmp.holds] using q1166
      refine Goes.runS X [(.aload_n 0, 1)] (S' := [.ref d]) (pc' := 16) rfl ?_
      refine Goes.getF X 0 0 rfl rfl (wd hw 16 rfl) Via.refl ?_
      refine Goes.runS X [(.iconst 3, 1)] (S' := [.int (3 : Int32), .int st]) (pc' := 20) rfl ?_
      refine Goes.if2 X (pc' := 40) (o := 20) (cd := .eq) (fun q1169 => ?_) (fun q1169 => ?_)
      · have h1170 : st = (3 : Int32) := by simpa [if_icmp.holds] using q1169
        refine Goes.runS X [(.iconst 1, 1)] (S' := [.int (1 : Int32)]) (pc' := 41) rfl ?_
        refine Goes.goto X (o := 4) (pc' := 45) ?_
        refine Goes.retI X (by simp) rfl ?_
        exact ⟨by simp [own_dec, h1165, h1168, h1170], rfl⟩
      · have h1171 : ¬ st = (3 : Int32) := by simpa [if_icmp.holds] using q1169
        refine Goes.runS X [(.aload_n 0, 1)] (S' := [.ref d]) (pc' := 24) rfl ?_
        refine Goes.getF X 0 0 rfl rfl (wd hw 16 rfl) Via.refl ?_
        refine Goes.runS X [(.iconst 5, 1)] (S' := [.int (5 : Int32), .int st]) (pc' := 28) rfl ?_
        refine Goes.if2 X (pc' := 40) (o := 12) (cd := .eq) (fun q1172 => ?_) (fun q1172 => ?_)
        · have h1173 : st = (5 : Int32) := by simpa [if_icmp.holds] using q1172
          refine Goes.runS X [(.iconst 1, 1)] (S' := [.int (1 : Int32)]) (pc' := 41) rfl ?_
          refine Goes.goto X (o := 4) (pc' := 45) ?_
          refine Goes.retI X (by simp) rfl ?_
          exact ⟨by simp [own_dec, h1165, h1168, h1171, h1173], rfl⟩
        · have h1174 : ¬ st = (5 : Int32) := by simpa [if_icmp.holds] using q1172
          refine Goes.runS X [(.aload_n 0, 1)] (S' := [.ref d]) (pc' := 32) rfl ?_
          refine Goes.getF X 0 0 rfl rfl (wd hw 16 rfl) Via.refl ?_
          refine Goes.runS X [(.bipush 8, 2)] (S' := [.int (8 : Int32), .int st]) (pc' := 37) rfl ?_
          refine Goes.if2 X (pc' := 44) (o := 7) (cd := .ne) (fun q1175 => ?_) (fun q1175 => ?_)
          · have h1176 : ¬ st = (8 : Int32) := by simpa [if_icmp.holds] using q1175
            refine Goes.runS X [(.iconst 0, 1)] (S' := [.int (0 : Int32)]) (pc' := 45) rfl ?_
            refine Goes.retI X (by simp) rfl ?_
            exact ⟨by simp [own_dec, h1165, h1168, h1171, h1174, h1176], rfl⟩
          · have h1177 : st = (8 : Int32) := by simpa [if_icmp.holds] using q1175
            refine Goes.runS X [(.iconst 1, 1)] (S' := [.int (1 : Int32)]) (pc' := 41) rfl ?_
            refine Goes.goto X (o := 4) (pc' := 45) ?_
            refine Goes.retI X (by simp) rfl ?_
            exact ⟨by simp [own_dec, h1165, h1168, h1171, h1174, h1177], rfl⟩
def own_nm (st : Int32) : Nat := if st = 2 then 3 else st.toInt.toNat
def own_nx (s cl : Nat) : Nat :=
  if s = 0 then (if cl = 0 then 1 else if cl = 4 then 3 else 9)
  else if s = 1 then (if cl = 4 then 3 else 9)
  else if s = 3 then (if cl = 4 then 3 else if cl = 2 then 4 else if cl = 3 then 6 else 9)
  else if s = 4 then (if cl = 4 then 5 else 9)
  else if s = 5 then (if cl = 4 then 5 else if cl = 3 then 6 else 9)
  else if s = 6 then (if cl ≤ 1 then 7 else if cl = 4 then 8 else 9)
  else (if cl = 4 then 8 else 9)
def own_sN (p : Nat × Nat) (cl : Nat) : Nat × Nat := if own_nx p.1 cl = 9 then (p.1, 1) else (own_nx p.1 cl, p.2)
def own_dN (p : Nat × Nat) : Nat := if p.2 = 0 then (if p.1 = 3 ∨ p.1 = 5 ∨ p.1 = 8 then 1 else 0) else 0
def own_Rel (st en : Int32) (p : Nat × Nat) : Prop := own_ok st ∧ own_nm st = p.1 ∧ ((en = 0 ∧ p.2 = 0) ∨ (¬ en = 0 ∧ p.2 = 1))
theorem own_Rel0 : own_Rel 0 0 (0, 0) := ⟨Or.inl rfl, rfl, Or.inl ⟨rfl, rfl⟩⟩
theorem own_nx_eq {st : Int32} (c : Int32) (h : own_ok st) : own_nx (own_nm st) (own_cl c) = own_nm (own_next st c) := by
  have e1 := own_cl0 c; have e2 := own_cl01 c; have e3 := own_cl2 c; have e4 := own_cl3 c; have e5 := own_cl4 c
  obtain ⟨d1, d2, d3, d4, d5, d6⟩ := own_d0
  have z : ∀ k : Nat, own_cl c = k → own_nx (own_nm st) k = own_nm (own_next st c) := by
    intro k hk
    rw [hk] at e1 e2 e3 e4 e5
    have hlt : k < 6 := hk ▸ own_cl_lt c
    unfold own_next
    match k, hlt with
    | 0, _ => obtain rfl := e1.mp rfl; rcases h with rfl | rfl | rfl | rfl | rfl | rfl | rfl | rfl | rfl <;> decide
    | 1, _ =>
      have : c = 43 := by rcases e2.mp (by decide) with q | q
                          · exact absurd (e1.mpr q) (by decide)
                          · exact q
      subst this; rcases h with rfl | rfl | rfl | rfl | rfl | rfl | rfl | rfl | rfl <;> decide
    | 2, _ => obtain rfl := e3.mp rfl; rcases h with rfl | rfl | rfl | rfl | rfl | rfl | rfl | rfl | rfl <;> decide
    | 3, _ => rcases e4.mp rfl with rfl | rfl <;> rcases h with rfl | rfl | rfl | rfl | rfl | rfl | rfl | rfl | rfl <;> decide
    | 4, _ =>
      have hd := e5.mp rfl
      have h1 : ¬ c = 45 := fun q => hd (q ▸ d1)
      have h2 : ¬ c = 43 := fun q => hd (q ▸ d2)
      by_cases h48 : c = 48
      · subst h48; rcases h with rfl | rfl | rfl | rfl | rfl | rfl | rfl | rfl | rfl <;> decide
      · rcases h with rfl | rfl | rfl | rfl | rfl | rfl | rfl | rfl | rfl <;> simp [hd, h1, h2, h48] <;> decide
    | 5, _ =>
      have hd : own_dig c = 0 := Classical.not_not.mp fun q => absurd (e5.mpr q) (by decide)
      have h1 : ¬ c = 45 := fun q => absurd (e1.mpr q) (by decide)
      have h2 : ¬ c = 43 := fun q => absurd (e2.mpr (Or.inr q)) (by decide)
      have h3 : ¬ c = 46 := fun q => absurd (e3.mpr q) (by decide)
      have h4 : ¬ c = 101 := fun q => absurd (e4.mpr (Or.inl q)) (by decide)
      have h5 : ¬ c = 69 := fun q => absurd (e4.mpr (Or.inr q)) (by decide)
      have h6 : ¬ c = 48 := fun q => by rw [q, d6] at hd; exact absurd hd (by decide)
      rcases h with rfl | rfl | rfl | rfl | rfl | rfl | rfl | rfl | rfl <;> simp [hd, h1, h2, h3, h4, h5, h6] <;> decide
  exact z _ rfl
theorem own_nm9 (st c : Int32) : own_nm (own_next st c) = 9 ↔ own_next st c = 9 := by
  rcases own_next_ok st c with q | ⟨-, q⟩
  · rw [q]; decide
  · rcases q with q | q | q | q | q | q | q | q | q <;> rw [q] <;> decide
theorem own_Rel.step {st en : Int32} {p : Nat × Nat} (c : Int32) (h : own_Rel st en p) : own_Rel (own_st st c) (own_en en st c) (own_sN p (own_cl c)) := by
  obtain ⟨h1, h2, h3⟩ := h
  refine ⟨own_st_ok c h1, ?_, ?_⟩
  · unfold own_st own_sN; rw [← h2, own_nx_eq c h1]
    by_cases q : own_next st c = 9
    · rw [if_pos q, if_pos ((own_nm9 st c).mpr q)]
    · rw [if_neg q, if_neg (fun z => q ((own_nm9 st c).mp z))]
  · unfold own_en own_sN; rw [← h2, own_nx_eq c h1]
    by_cases q : own_next st c = 9
    · rw [if_pos q, if_pos ((own_nm9 st c).mpr q)]; exact Or.inr ⟨by decide, rfl⟩
    · rw [if_neg q, if_neg (fun z => q ((own_nm9 st c).mp z))]; exact h3
theorem own_Rel.dec {st en : Int32} {p : Nat × Nat} (h : own_Rel st en p) : own_dec st en = Int32.ofNat (own_dN p) := by
  obtain ⟨h1, h2, h3⟩ := h
  unfold own_dec own_dN
  rcases h3 with ⟨a, b⟩ | ⟨a, b⟩
  · rw [if_pos a, if_pos b, ← h2]; rcases h1 with rfl | rfl | rfl | rfl | rfl | rfl | rfl | rfl | rfl <;> decide
  · rw [if_neg a, if_neg (by omega)]; decide
def own_run (L : List Nat) : Nat := own_dN (L.foldl own_sN (0, 0))
def own_all : Nat → (List Nat → Bool) → Bool
  | 0, f => f []
  | n + 1, f => own_all n fun L => f (0 :: L) && f (1 :: L) && f (2 :: L) && f (3 :: L) && f (4 :: L) && f (5 :: L)
theorem own_all.spec : ∀ (n : Nat) (f : List Nat → Bool), own_all n f = true → ∀ L : List Nat, L.length = n → (∀ x ∈ L, x < 6) → f L = true
  | 0, f, h, [], _, _ => h
  | n + 1, f, h, x :: L, hl, hx => by
    have q := own_all.spec n _ h L (by simpa using hl) fun y hy => hx y (List.mem_cons_of_mem _ hy)
    simp only [Bool.and_eq_true] at q
    obtain ⟨⟨⟨⟨⟨q0, q1⟩, q2⟩, q3⟩, q4⟩, q5⟩ := q
    have hlt := hx x (List.mem_cons_self ..)
    match x, hlt with
    | 0, _ => exact q0
    | 1, _ => exact q1
    | 2, _ => exact q2
    | 3, _ => exact q3
    | 4, _ => exact q4
    | 5, _ => exact q5
theorem own_six {n : Nat} (f : List Nat → Bool) (h0 : ∀ L : List Nat, L.length = n → (∀ x ∈ L, x < 6) → f (0 :: L) = true) (h1 : ∀ L : List Nat, L.length = n → (∀ x ∈ L, x < 6) → f (1 :: L) = true) (h2 : ∀ L : List Nat, L.length = n → (∀ x ∈ L, x < 6) → f (2 :: L) = true) (h3 : ∀ L : List Nat, L.length = n → (∀ x ∈ L, x < 6) → f (3 :: L) = true) (h4 : ∀ L : List Nat, L.length = n → (∀ x ∈ L, x < 6) → f (4 :: L) = true) (h5 : ∀ L : List Nat, L.length = n → (∀ x ∈ L, x < 6) → f (5 :: L) = true) (L : List Nat) (hl : L.length = n + 1) (hx : ∀ x ∈ L, x < 6) : f L = true := by
  cases L with
  | nil => simp at hl
  | cons x L =>
    have hr : ∀ y ∈ L, y < 6 := fun y hy => hx y (List.mem_cons_of_mem _ hy)
    have hl' : L.length = n := by simpa using hl
    have hlt := hx x (List.mem_cons_self ..)
    match x, hlt with
    | 0, _ => exact h0 L hl' hr
    | 1, _ => exact h1 L hl' hr
    | 2, _ => exact h2 L hl' hr
    | 3, _ => exact h3 L hl' hr
    | 4, _ => exact h4 L hl' hr
    | 5, _ => exact h5 L hl' hr
set_option maxRecDepth 1000000 in
theorem own_dec0 : own_all 0 (fun L => Nat.beq (own_run L) (own_refN 0 L)) = true := by decide +kernel
theorem own_law0 (x : Nat) : own_dec 0 0 = Int32.ofNat (own_refN 0 []) := by
  have q := own_all.spec 0 _ own_dec0 [] rfl (fun x hx => nomatch hx)
  rw [own_Rel0.dec, ← Nat.eq_of_beq_eq_true q, own_run] <;> simp only [List.foldl_cons, List.foldl_nil]
set_option maxRecDepth 1000000 in
theorem own_dec1 : own_all 1 (fun L => Nat.beq (own_run L) (own_refN 1 L)) = true := by decide +kernel
theorem own_law1 (c0 : Int32) (x : Nat) : own_dec (own_st 0 c0) (own_en 0 0 c0) = Int32.ofNat (own_refN 1 [(own_cl c0)]) := by
  have q := own_all.spec 1 _ own_dec1 [(own_cl c0)] rfl (by intro x hx; simp only [List.mem_cons, List.not_mem_nil, or_false] at hx; subst hx; exact own_cl_lt _)
  rw [(own_Rel.step c0 own_Rel0).dec, ← Nat.eq_of_beq_eq_true q, own_run] <;> simp only [List.foldl_cons, List.foldl_nil]
set_option maxRecDepth 1000000 in
theorem own_dec2 : own_all 2 (fun L => Nat.beq (own_run L) (own_refN 2 L)) = true := by decide +kernel
theorem own_law2 (c0 c1 : Int32) (x : Nat) : own_dec (own_st (own_st 0 c0) c1) (own_en (own_en 0 0 c0) (own_st 0 c0) c1) = Int32.ofNat (own_refN 2 [(own_cl c0), (own_cl c1)]) := by
  have q := own_all.spec 2 _ own_dec2 [(own_cl c0), (own_cl c1)] rfl (by intro x hx; simp only [List.mem_cons, List.not_mem_nil, or_false] at hx; rcases hx with rfl | rfl <;> exact own_cl_lt _)
  rw [(own_Rel.step c1 (own_Rel.step c0 own_Rel0)).dec, ← Nat.eq_of_beq_eq_true q, own_run] <;> simp only [List.foldl_cons, List.foldl_nil]
set_option maxRecDepth 1000000 in
theorem own_dec3 : own_all 3 (fun L => Nat.beq (own_run L) (own_refN 3 L)) = true := by decide +kernel
theorem own_law3 (c0 c1 c2 : Int32) (x : Nat) : own_dec (own_st (own_st (own_st 0 c0) c1) c2) (own_en (own_en (own_en 0 0 c0) (own_st 0 c0) c1) (own_st (own_st 0 c0) c1) c2) = Int32.ofNat (own_refN 3 [(own_cl c0), (own_cl c1), (own_cl c2)]) := by
  have q := own_all.spec 3 _ own_dec3 [(own_cl c0), (own_cl c1), (own_cl c2)] rfl (by intro x hx; simp only [List.mem_cons, List.not_mem_nil, or_false] at hx; rcases hx with rfl | rfl | rfl <;> exact own_cl_lt _)
  rw [(own_Rel.step c2 (own_Rel.step c1 (own_Rel.step c0 own_Rel0))).dec, ← Nat.eq_of_beq_eq_true q, own_run] <;> simp only [List.foldl_cons, List.foldl_nil]
set_option maxRecDepth 1000000 in
theorem own_dec4 : own_all 4 (fun L => Nat.beq (own_run L) (own_refN 4 L)) = true := by decide +kernel
theorem own_law4 (c0 c1 c2 c3 : Int32) (x : Nat) : own_dec (own_st (own_st (own_st (own_st 0 c0) c1) c2) c3) (own_en (own_en (own_en (own_en 0 0 c0) (own_st 0 c0) c1) (own_st (own_st 0 c0) c1) c2) (own_st (own_st (own_st 0 c0) c1) c2) c3) = Int32.ofNat (own_refN 4 [(own_cl c0), (own_cl c1), (own_cl c2), (own_cl c3)]) := by
  have q := own_all.spec 4 _ own_dec4 [(own_cl c0), (own_cl c1), (own_cl c2), (own_cl c3)] rfl (by intro x hx; simp only [List.mem_cons, List.not_mem_nil, or_false] at hx; rcases hx with rfl | rfl | rfl | rfl <;> exact own_cl_lt _)
  rw [(own_Rel.step c3 (own_Rel.step c2 (own_Rel.step c1 (own_Rel.step c0 own_Rel0)))).dec, ← Nat.eq_of_beq_eq_true q, own_run] <;> simp only [List.foldl_cons, List.foldl_nil]
set_option maxRecDepth 1000000 in
theorem own_dec5_0 : own_all 4 (fun L => Nat.beq (own_run (0 :: L)) (own_refN 5 (0 :: L))) = true := by decide +kernel
set_option maxRecDepth 1000000 in
theorem own_dec5_1 : own_all 4 (fun L => Nat.beq (own_run (1 :: L)) (own_refN 5 (1 :: L))) = true := by decide +kernel
set_option maxRecDepth 1000000 in
theorem own_dec5_2 : own_all 4 (fun L => Nat.beq (own_run (2 :: L)) (own_refN 5 (2 :: L))) = true := by decide +kernel
set_option maxRecDepth 1000000 in
theorem own_dec5_3 : own_all 4 (fun L => Nat.beq (own_run (3 :: L)) (own_refN 5 (3 :: L))) = true := by decide +kernel
set_option maxRecDepth 1000000 in
theorem own_dec5_4 : own_all 4 (fun L => Nat.beq (own_run (4 :: L)) (own_refN 5 (4 :: L))) = true := by decide +kernel
set_option maxRecDepth 1000000 in
theorem own_dec5_5 : own_all 4 (fun L => Nat.beq (own_run (5 :: L)) (own_refN 5 (5 :: L))) = true := by decide +kernel
theorem own_decs5 : ∀ L : List Nat, L.length = 5 → (∀ x ∈ L, x < 6) → Nat.beq (own_run L) (own_refN 5 L) = true := (own_six (n := 4) (fun L => Nat.beq (own_run (L)) (own_refN 5 (L))) (own_all.spec 4 _ own_dec5_0) (own_all.spec 4 _ own_dec5_1) (own_all.spec 4 _ own_dec5_2) (own_all.spec 4 _ own_dec5_3) (own_all.spec 4 _ own_dec5_4) (own_all.spec 4 _ own_dec5_5))
theorem own_law5 (c0 c1 c2 c3 c4 : Int32) (x : Nat) : own_dec (own_st (own_st (own_st (own_st (own_st 0 c0) c1) c2) c3) c4) (own_en (own_en (own_en (own_en (own_en 0 0 c0) (own_st 0 c0) c1) (own_st (own_st 0 c0) c1) c2) (own_st (own_st (own_st 0 c0) c1) c2) c3) (own_st (own_st (own_st (own_st 0 c0) c1) c2) c3) c4) = Int32.ofNat (own_refN 5 [(own_cl c0), (own_cl c1), (own_cl c2), (own_cl c3), (own_cl c4)]) := by
  have q := own_decs5 [(own_cl c0), (own_cl c1), (own_cl c2), (own_cl c3), (own_cl c4)] rfl (by intro x hx; simp only [List.mem_cons, List.not_mem_nil, or_false] at hx; rcases hx with rfl | rfl | rfl | rfl | rfl <;> exact own_cl_lt _)
  rw [(own_Rel.step c4 (own_Rel.step c3 (own_Rel.step c2 (own_Rel.step c1 (own_Rel.step c0 own_Rel0))))).dec, ← Nat.eq_of_beq_eq_true q, own_run] <;> simp only [List.foldl_cons, List.foldl_nil]
set_option maxRecDepth 1000000 in
theorem own_dec6_00 : own_all 4 (fun L => Nat.beq (own_run (0 :: 0 :: L)) (own_refN 6 (0 :: 0 :: L))) = true := by decide +kernel
set_option maxRecDepth 1000000 in
theorem own_dec6_01 : own_all 4 (fun L => Nat.beq (own_run (0 :: 1 :: L)) (own_refN 6 (0 :: 1 :: L))) = true := by decide +kernel
set_option maxRecDepth 1000000 in
theorem own_dec6_02 : own_all 4 (fun L => Nat.beq (own_run (0 :: 2 :: L)) (own_refN 6 (0 :: 2 :: L))) = true := by decide +kernel
set_option maxRecDepth 1000000 in
theorem own_dec6_03 : own_all 4 (fun L => Nat.beq (own_run (0 :: 3 :: L)) (own_refN 6 (0 :: 3 :: L))) = true := by decide +kernel
set_option maxRecDepth 1000000 in
theorem own_dec6_04 : own_all 4 (fun L => Nat.beq (own_run (0 :: 4 :: L)) (own_refN 6 (0 :: 4 :: L))) = true := by decide +kernel
set_option maxRecDepth 1000000 in
theorem own_dec6_05 : own_all 4 (fun L => Nat.beq (own_run (0 :: 5 :: L)) (own_refN 6 (0 :: 5 :: L))) = true := by decide +kernel
set_option maxRecDepth 1000000 in
theorem own_dec6_10 : own_all 4 (fun L => Nat.beq (own_run (1 :: 0 :: L)) (own_refN 6 (1 :: 0 :: L))) = true := by decide +kernel
set_option maxRecDepth 1000000 in
theorem own_dec6_11 : own_all 4 (fun L => Nat.beq (own_run (1 :: 1 :: L)) (own_refN 6 (1 :: 1 :: L))) = true := by decide +kernel
set_option maxRecDepth 1000000 in
theorem own_dec6_12 : own_all 4 (fun L => Nat.beq (own_run (1 :: 2 :: L)) (own_refN 6 (1 :: 2 :: L))) = true := by decide +kernel
set_option maxRecDepth 1000000 in
theorem own_dec6_13 : own_all 4 (fun L => Nat.beq (own_run (1 :: 3 :: L)) (own_refN 6 (1 :: 3 :: L))) = true := by decide +kernel
set_option maxRecDepth 1000000 in
theorem own_dec6_14 : own_all 4 (fun L => Nat.beq (own_run (1 :: 4 :: L)) (own_refN 6 (1 :: 4 :: L))) = true := by decide +kernel
set_option maxRecDepth 1000000 in
theorem own_dec6_15 : own_all 4 (fun L => Nat.beq (own_run (1 :: 5 :: L)) (own_refN 6 (1 :: 5 :: L))) = true := by decide +kernel
set_option maxRecDepth 1000000 in
theorem own_dec6_20 : own_all 4 (fun L => Nat.beq (own_run (2 :: 0 :: L)) (own_refN 6 (2 :: 0 :: L))) = true := by decide +kernel
set_option maxRecDepth 1000000 in
theorem own_dec6_21 : own_all 4 (fun L => Nat.beq (own_run (2 :: 1 :: L)) (own_refN 6 (2 :: 1 :: L))) = true := by decide +kernel
set_option maxRecDepth 1000000 in
theorem own_dec6_22 : own_all 4 (fun L => Nat.beq (own_run (2 :: 2 :: L)) (own_refN 6 (2 :: 2 :: L))) = true := by decide +kernel
set_option maxRecDepth 1000000 in
theorem own_dec6_23 : own_all 4 (fun L => Nat.beq (own_run (2 :: 3 :: L)) (own_refN 6 (2 :: 3 :: L))) = true := by decide +kernel
set_option maxRecDepth 1000000 in
theorem own_dec6_24 : own_all 4 (fun L => Nat.beq (own_run (2 :: 4 :: L)) (own_refN 6 (2 :: 4 :: L))) = true := by decide +kernel
set_option maxRecDepth 1000000 in
theorem own_dec6_25 : own_all 4 (fun L => Nat.beq (own_run (2 :: 5 :: L)) (own_refN 6 (2 :: 5 :: L))) = true := by decide +kernel
set_option maxRecDepth 1000000 in
theorem own_dec6_30 : own_all 4 (fun L => Nat.beq (own_run (3 :: 0 :: L)) (own_refN 6 (3 :: 0 :: L))) = true := by decide +kernel
set_option maxRecDepth 1000000 in
theorem own_dec6_31 : own_all 4 (fun L => Nat.beq (own_run (3 :: 1 :: L)) (own_refN 6 (3 :: 1 :: L))) = true := by decide +kernel
set_option maxRecDepth 1000000 in
theorem own_dec6_32 : own_all 4 (fun L => Nat.beq (own_run (3 :: 2 :: L)) (own_refN 6 (3 :: 2 :: L))) = true := by decide +kernel
set_option maxRecDepth 1000000 in
theorem own_dec6_33 : own_all 4 (fun L => Nat.beq (own_run (3 :: 3 :: L)) (own_refN 6 (3 :: 3 :: L))) = true := by decide +kernel
set_option maxRecDepth 1000000 in
theorem own_dec6_34 : own_all 4 (fun L => Nat.beq (own_run (3 :: 4 :: L)) (own_refN 6 (3 :: 4 :: L))) = true := by decide +kernel
set_option maxRecDepth 1000000 in
theorem own_dec6_35 : own_all 4 (fun L => Nat.beq (own_run (3 :: 5 :: L)) (own_refN 6 (3 :: 5 :: L))) = true := by decide +kernel
set_option maxRecDepth 1000000 in
theorem own_dec6_40 : own_all 4 (fun L => Nat.beq (own_run (4 :: 0 :: L)) (own_refN 6 (4 :: 0 :: L))) = true := by decide +kernel
set_option maxRecDepth 1000000 in
theorem own_dec6_41 : own_all 4 (fun L => Nat.beq (own_run (4 :: 1 :: L)) (own_refN 6 (4 :: 1 :: L))) = true := by decide +kernel
set_option maxRecDepth 1000000 in
theorem own_dec6_42 : own_all 4 (fun L => Nat.beq (own_run (4 :: 2 :: L)) (own_refN 6 (4 :: 2 :: L))) = true := by decide +kernel
set_option maxRecDepth 1000000 in
theorem own_dec6_43 : own_all 4 (fun L => Nat.beq (own_run (4 :: 3 :: L)) (own_refN 6 (4 :: 3 :: L))) = true := by decide +kernel
set_option maxRecDepth 1000000 in
theorem own_dec6_44 : own_all 4 (fun L => Nat.beq (own_run (4 :: 4 :: L)) (own_refN 6 (4 :: 4 :: L))) = true := by decide +kernel
set_option maxRecDepth 1000000 in
theorem own_dec6_45 : own_all 4 (fun L => Nat.beq (own_run (4 :: 5 :: L)) (own_refN 6 (4 :: 5 :: L))) = true := by decide +kernel
set_option maxRecDepth 1000000 in
theorem own_dec6_50 : own_all 4 (fun L => Nat.beq (own_run (5 :: 0 :: L)) (own_refN 6 (5 :: 0 :: L))) = true := by decide +kernel
set_option maxRecDepth 1000000 in
theorem own_dec6_51 : own_all 4 (fun L => Nat.beq (own_run (5 :: 1 :: L)) (own_refN 6 (5 :: 1 :: L))) = true := by decide +kernel
set_option maxRecDepth 1000000 in
theorem own_dec6_52 : own_all 4 (fun L => Nat.beq (own_run (5 :: 2 :: L)) (own_refN 6 (5 :: 2 :: L))) = true := by decide +kernel
set_option maxRecDepth 1000000 in
theorem own_dec6_53 : own_all 4 (fun L => Nat.beq (own_run (5 :: 3 :: L)) (own_refN 6 (5 :: 3 :: L))) = true := by decide +kernel
set_option maxRecDepth 1000000 in
theorem own_dec6_54 : own_all 4 (fun L => Nat.beq (own_run (5 :: 4 :: L)) (own_refN 6 (5 :: 4 :: L))) = true := by decide +kernel
set_option maxRecDepth 1000000 in
theorem own_dec6_55 : own_all 4 (fun L => Nat.beq (own_run (5 :: 5 :: L)) (own_refN 6 (5 :: 5 :: L))) = true := by decide +kernel
theorem own_decs6 : ∀ L : List Nat, L.length = 6 → (∀ x ∈ L, x < 6) → Nat.beq (own_run L) (own_refN 6 L) = true := (own_six (n := 5) (fun L => Nat.beq (own_run (L)) (own_refN 6 (L))) (own_six (n := 4) (fun L => Nat.beq (own_run (0 :: L)) (own_refN 6 (0 :: L))) (own_all.spec 4 _ own_dec6_00) (own_all.spec 4 _ own_dec6_01) (own_all.spec 4 _ own_dec6_02) (own_all.spec 4 _ own_dec6_03) (own_all.spec 4 _ own_dec6_04) (own_all.spec 4 _ own_dec6_05)) (own_six (n := 4) (fun L => Nat.beq (own_run (1 :: L)) (own_refN 6 (1 :: L))) (own_all.spec 4 _ own_dec6_10) (own_all.spec 4 _ own_dec6_11) (own_all.spec 4 _ own_dec6_12) (own_all.spec 4 _ own_dec6_13) (own_all.spec 4 _ own_dec6_14) (own_all.spec 4 _ own_dec6_15)) (own_six (n := 4) (fun L => Nat.beq (own_run (2 :: L)) (own_refN 6 (2 :: L))) (own_all.spec 4 _ own_dec6_20) (own_all.spec 4 _ own_dec6_21) (own_all.spec 4 _ own_dec6_22) (own_all.spec 4 _ own_dec6_23) (own_all.spec 4 _ own_dec6_24) (own_all.spec 4 _ own_dec6_25)) (own_six (n := 4) (fun L => Nat.beq (own_run (3 :: L)) (own_refN 6 (3 :: L))) (own_all.spec 4 _ own_dec6_30) (own_all.spec 4 _ own_dec6_31) (own_all.spec 4 _ own_dec6_32) (own_all.spec 4 _ own_dec6_33) (own_all.spec 4 _ own_dec6_34) (own_all.spec 4 _ own_dec6_35)) (own_six (n := 4) (fun L => Nat.beq (own_run (4 :: L)) (own_refN 6 (4 :: L))) (own_all.spec 4 _ own_dec6_40) (own_all.spec 4 _ own_dec6_41) (own_all.spec 4 _ own_dec6_42) (own_all.spec 4 _ own_dec6_43) (own_all.spec 4 _ own_dec6_44) (own_all.spec 4 _ own_dec6_45)) (own_six (n := 4) (fun L => Nat.beq (own_run (5 :: L)) (own_refN 6 (5 :: L))) (own_all.spec 4 _ own_dec6_50) (own_all.spec 4 _ own_dec6_51) (own_all.spec 4 _ own_dec6_52) (own_all.spec 4 _ own_dec6_53) (own_all.spec 4 _ own_dec6_54) (own_all.spec 4 _ own_dec6_55)))
theorem own_law6 (c0 c1 c2 c3 c4 c5 : Int32) (x : Nat) : own_dec (own_st (own_st (own_st (own_st (own_st (own_st 0 c0) c1) c2) c3) c4) c5) (own_en (own_en (own_en (own_en (own_en (own_en 0 0 c0) (own_st 0 c0) c1) (own_st (own_st 0 c0) c1) c2) (own_st (own_st (own_st 0 c0) c1) c2) c3) (own_st (own_st (own_st (own_st 0 c0) c1) c2) c3) c4) (own_st (own_st (own_st (own_st (own_st 0 c0) c1) c2) c3) c4) c5) = Int32.ofNat (own_refN 6 [(own_cl c0), (own_cl c1), (own_cl c2), (own_cl c3), (own_cl c4), (own_cl c5)]) := by
  have q := own_decs6 [(own_cl c0), (own_cl c1), (own_cl c2), (own_cl c3), (own_cl c4), (own_cl c5)] rfl (by intro x hx; simp only [List.mem_cons, List.not_mem_nil, or_false] at hx; rcases hx with rfl | rfl | rfl | rfl | rfl | rfl <;> exact own_cl_lt _)
  rw [(own_Rel.step c5 (own_Rel.step c4 (own_Rel.step c3 (own_Rel.step c2 (own_Rel.step c1 (own_Rel.step c0 own_Rel0)))))).dec, ← Nat.eq_of_beq_eq_true q, own_run] <;> simp only [List.foldl_cons, List.foldl_nil]
theorem own_case7 (r : Int32) (h0 : 0 ≤ r.toInt) (h1 : r.toInt < (7 : Int32).toInt) : r = 0 ∨ r = 1 ∨ r = 2 ∨ r = 3 ∨ r = 4 ∨ r = 5 ∨ r = 6 := by
  have h1' : r.toInt < 7 := h1
  have : r.toInt = 0 ∨ r.toInt = 1 ∨ r.toInt = 2 ∨ r.toInt = 3 ∨ r.toInt = 4 ∨ r.toInt = 5 ∨ r.toInt = 6 := by omega
  rcases this with h | h | h | h | h | h | h <;> simp [← Int32.toInt_inj, h]
set_option maxRecDepth 65536 in
set_option maxHeartbeats 40000000 in
theorem D_law (l : Launch) (Z : State) (a0 : Array Value) (h0 : Heap) (hw : ∀ d ∈ tables_1, d.before a0 Z = true) (cs : Int32) (hCS : Sta Z h0 "java/lang/String" "COMPACT_STRINGS" "Z" (.int cs)) (hcs : ¬ cs = 0) (n sel : Int32) (raw : Int64) : Does l Z a0 h0 x code maxLocals ret room_1 #[.int n, .int sel, .long raw] [] (fun v F => v = some (.int 1)) := by
  refine Does.mk #[.val (.int n), .val (.int sel), .val (.long raw), .second, .unset, .unset, .unset] (plainFor_of_name (by decide +kernel)) (fun m => by first | (simp [entryFrame, mkF, argsToLocals, Value.category, maxLocals]; done) | rfl) ?_
  intro p e s m args below meth c h X
  rcases own_case7 _ (own_rem n 7 (by decide)).1 (own_rem n 7 (by decide)).2 with e0 | e1 | e2 | e3 | e4 | e5 | e6
  · refine Goes.runS X [(.iload_n 0, 1)] (S' := [.int n]) (pc' := 1) rfl ?_
    refine Goes.ldcI X (wd hw 0 rfl) ?_
    refine Goes.run X [(.iand, 1), (.bipush 7, 2), (.irem, 1), (.istore 4, 2)] (L' := #[.val (.int n), .val (.int sel), .val (.long raw), .second, .val (.int ((n &&& (2147483647 : Int32)) % (7 : Int32))), .unset, .unset]) (S' := []) (pc' := 9) rfl ?_
    rw [e0]
    show Goes _ _ _ _ _ _ _ _ _ _ _ _ _ _ _ _ _ _ [] 0 0 (mkF m 9 #[.val (.int n), .val (.int sel), .val (.long raw), .second, .val (.int (0 : Int32)), .unset, .unset] [])
    refine Goes.runS X [(.bipush 6, 2)] (S' := [.int (6 : Int32)]) (pc' := 11) rfl ?_
    refine Goes.newarr X (aty := .char) "[C" 6 6 (wd hw 1 rfl) (by decide +kernel) (by decide) (by decide) (fun a1178 => ?_)
    refine Goes.run X [(.astore 5, 2), (.aload 5, 2), (.iconst 0, 1), (.iload_n 1, 1), (.lload_n 2, 1), (.iconst 0, 1)] (L' := #[.val (.int n), .val (.int sel), .val (.long raw), .second, .val (.int (0 : Int32)), .val (.ref a1178), .unset]) (S' := [.int (0 : Int32), .long raw, .int sel, .int (0 : Int32), .ref a1178]) (pc' := 21) rfl ?_
    refine Goes.callS X 2 [] [0] (D_pick l Z a0 h0 hw sel raw 0) (wd hw 2 rfl) (wd hw 3 rfl) (wd hw 4 rfl) (wd hw 5 rfl) pd_y_0 rfl (st := [.int (0 : Int32), .ref a1178]) rfl rfl (G := [(a1178, ar "[C" .char [.int 0, .int 0, .int 0, .int 0, .int 0, .int 0])]) rfl rfl ?_
    rintro _ _ ⟨c1179, rfl, h0c1179, h1c1179, rfl⟩
    refine Goes.castore X 0 0 rfl (by decide) (by decide) (Nat.le_of_ble_eq_true rfl) ?_
    rw [own_nca h0c1179 h1c1179]
    refine Goes.runS X [(.aload 5, 2), (.iconst 1, 1), (.iload_n 1, 1), (.lload_n 2, 1), (.iconst 1, 1)] (S' := [.int (1 : Int32), .long raw, .int sel, .int (1 : Int32), .ref a1178]) (pc' := 31) rfl ?_
    refine Goes.callS X 2 [] [0] (D_pick l Z a0 h0 hw sel raw 1) (wd hw 2 rfl) (wd hw 3 rfl) (wd hw 4 rfl) (wd hw 5 rfl) pd_y_0 rfl (st := [.int (1 : Int32), .ref a1178]) rfl rfl (G := [(a1178, ar "[C" .char [.int c1179, .int 0, .int 0, .int 0, .int 0, .int 0])]) rfl rfl ?_
    rintro _ _ ⟨c1180, rfl, h0c1180, h1c1180, rfl⟩
    refine Goes.castore X 0 1 rfl (by decide) (by decide) (Nat.le_of_ble_eq_true rfl) ?_
    rw [own_nca h0c1180 h1c1180]
    refine Goes.runS X [(.aload 5, 2), (.iconst 2, 1), (.iload_n 1, 1), (.lload_n 2, 1), (.iconst 2, 1)] (S' := [.int (2 : Int32), .long raw, .int sel, .int (2 : Int32), .ref a1178]) (pc' := 41) rfl ?_
    refine Goes.callS X 2 [] [0] (D_pick l Z a0 h0 hw sel raw 2) (wd hw 2 rfl) (wd hw 3 rfl) (wd hw 4 rfl) (wd hw 5 rfl) pd_y_0 rfl (st := [.int (2 : Int32), .ref a1178]) rfl rfl (G := [(a1178, ar "[C" .char [.int c1179, .int c1180, .int 0, .int 0, .int 0, .int 0])]) rfl rfl ?_
    rintro _ _ ⟨c1181, rfl, h0c1181, h1c1181, rfl⟩
    refine Goes.castore X 0 2 rfl (by decide) (by decide) (Nat.le_of_ble_eq_true rfl) ?_
    rw [own_nca h0c1181 h1c1181]
    refine Goes.runS X [(.aload 5, 2), (.iconst 3, 1), (.iload_n 1, 1), (.lload_n 2, 1), (.iconst 3, 1)] (S' := [.int (3 : Int32), .long raw, .int sel, .int (3 : Int32), .ref a1178]) (pc' := 51) rfl ?_
    refine Goes.callS X 2 [] [0] (D_pick l Z a0 h0 hw sel raw 3) (wd hw 2 rfl) (wd hw 3 rfl) (wd hw 4 rfl) (wd hw 5 rfl) pd_y_0 rfl (st := [.int (3 : Int32), .ref a1178]) rfl rfl (G := [(a1178, ar "[C" .char [.int c1179, .int c1180, .int c1181, .int 0, .int 0, .int 0])]) rfl rfl ?_
    rintro _ _ ⟨c1182, rfl, h0c1182, h1c1182, rfl⟩
    refine Goes.castore X 0 3 rfl (by decide) (by decide) (Nat.le_of_ble_eq_true rfl) ?_
    rw [own_nca h0c1182 h1c1182]
    refine Goes.runS X [(.aload 5, 2), (.iconst 4, 1), (.iload_n 1, 1), (.lload_n 2, 1), (.iconst 4, 1)] (S' := [.int (4 : Int32), .long raw, .int sel, .int (4 : Int32), .ref a1178]) (pc' := 61) rfl ?_
    refine Goes.callS X 2 [] [0] (D_pick l Z a0 h0 hw sel raw 4) (wd hw 2 rfl) (wd hw 3 rfl) (wd hw 4 rfl) (wd hw 5 rfl) pd_y_0 rfl (st := [.int (4 : Int32), .ref a1178]) rfl rfl (G := [(a1178, ar "[C" .char [.int c1179, .int c1180, .int c1181, .int c1182, .int 0, .int 0])]) rfl rfl ?_
    rintro _ _ ⟨c1183, rfl, h0c1183, h1c1183, rfl⟩
    refine Goes.castore X 0 4 rfl (by decide) (by decide) (Nat.le_of_ble_eq_true rfl) ?_
    rw [own_nca h0c1183 h1c1183]
    refine Goes.runS X [(.aload 5, 2), (.iconst 5, 1), (.iload_n 1, 1), (.lload_n 2, 1), (.iconst 5, 1)] (S' := [.int (5 : Int32), .long raw, .int sel, .int (5 : Int32), .ref a1178]) (pc' := 71) rfl ?_
    refine Goes.callS X 2 [] [0] (D_pick l Z a0 h0 hw sel raw 5) (wd hw 2 rfl) (wd hw 3 rfl) (wd hw 4 rfl) (wd hw 5 rfl) pd_y_0 rfl (st := [.int (5 : Int32), .ref a1178]) rfl rfl (G := [(a1178, ar "[C" .char [.int c1179, .int c1180, .int c1181, .int c1182, .int c1183, .int 0])]) rfl rfl ?_
    rintro _ _ ⟨c1184, rfl, h0c1184, h1c1184, rfl⟩
    refine Goes.castore X 0 5 rfl (by decide) (by decide) (Nat.le_of_ble_eq_true rfl) ?_
    rw [own_nca h0c1184 h1c1184]
    refine Goes.new X _ (wd hw 7 rfl) (wd hw 8 rfl) (wd hw 9 rfl) (new_Dig hw) (fun a1185 => ?_)
    refine Goes.runS X [(.dup, 1), (.iconst 0, 1)] (S' := [.int (0 : Int32), .ref a1185, .ref a1185]) (pc' := 80) rfl ?_
    refine Goes.callN X 1 [1] [0] (D_dctor l Z a0 h0 hw cs hCS hcs a1185) rfl (wd hw 10 rfl) (wd hw 11 rfl) (wd hw 9 rfl) (wd hw 12 rfl) pd_y_1 rfl (st := [.ref a1185]) rfl rfl (G := [(a1178, ar "[C" .char [.int c1179, .int c1180, .int c1181, .int c1182, .int c1183, .int c1184])]) rfl rfl ?_
    rintro _ _ ⟨u1186, b1187, h1188, b1189, rfl, rfl⟩
    refine Goes.run X [(.astore 6, 2), (.iload 4, 2)] (L' := #[.val (.int n), .val (.int sel), .val (.long raw), .second, .val (.int (0 : Int32)), .val (.ref a1178), .val (.ref a1185)]) (S' := [.int (0 : Int32)]) (pc' := 87) rfl ?_
    refine Goes.if1 X (pc' := 100) (o := 13) (cd := .le) (fun _ => ?_) (fun q => absurd q (by decide))
    refine Goes.runS X [(.iload 4, 2), (.iconst 1, 1)] (S' := [.int (1 : Int32), .int (0 : Int32)]) (pc' := 103) rfl ?_
    refine Goes.if2 X (pc' := 116) (o := 13) (cd := .le) (fun _ => ?_) (fun q => absurd q (by decide))
    refine Goes.runS X [(.iload 4, 2), (.iconst 2, 1)] (S' := [.int (2 : Int32), .int (0 : Int32)]) (pc' := 119) rfl ?_
    refine Goes.if2 X (pc' := 132) (o := 13) (cd := .le) (fun _ => ?_) (fun q => absurd q (by decide))
    refine Goes.runS X [(.iload 4, 2), (.iconst 3, 1)] (S' := [.int (3 : Int32), .int (0 : Int32)]) (pc' := 135) rfl ?_
    refine Goes.if2 X (pc' := 148) (o := 13) (cd := .le) (fun _ => ?_) (fun q => absurd q (by decide))
    refine Goes.runS X [(.iload 4, 2), (.iconst 4, 1)] (S' := [.int (4 : Int32), .int (0 : Int32)]) (pc' := 151) rfl ?_
    refine Goes.if2 X (pc' := 164) (o := 13) (cd := .le) (fun _ => ?_) (fun q => absurd q (by decide))
    refine Goes.runS X [(.iload 4, 2), (.iconst 5, 1)] (S' := [.int (5 : Int32), .int (0 : Int32)]) (pc' := 167) rfl ?_
    refine Goes.if2 X (pc' := 180) (o := 13) (cd := .le) (fun _ => ?_) (fun q => absurd q (by decide))
    refine Goes.runS X [(.aload 6, 2)] (S' := [.ref a1185]) (pc' := 182) rfl ?_
    refine Goes.callV X 0 0 [0] [1, 2, 3, 4] rfl (D_dec l Z a0 h0 hw a1185 0 0 (.long 0) (.long 0) (.int 0) (.int 0) (.long 0) (.ref u1186) (.ref h1188) (.int 0) (.int 0)) (wd hw 46 rfl) (wd hw 47 rfl) (wd hw 49 rfl) (wd hw 48 rfl) (own_nf X (wd hw 49 rfl)) (wd hw 9 rfl) (wd hw 50 rfl) pd_y_4 rfl (st := []) rfl rfl (G := [(u1186, o_SB (.ref b1187) (.int 0) (.int 0)), (b1187, oBs (List.replicate 16 (.int 0))), (h1188, o_SB (.ref b1189) (.int 0) (.int 0)), (a1178, ar "[C" .char [.int c1179, .int c1180, .int c1181, .int c1182, .int c1183, .int c1184])]) rfl rfl ?_
    rintro _ _ ⟨rfl, rfl⟩
    refine Goes.runS X [(.aload 5, 2), (.iload 4, 2)] (S' := [.int (0 : Int32), .ref a1178, .int (own_dec 0 0)]) (pc' := 189) rfl ?_
    refine Goes.callS X 1 [4] [0, 1, 2, 3] (D_ref0 l Z a0 h0 hw a1178 c1179 c1180 c1181 c1182 c1183 c1184) (wd hw 53 rfl) (wd hw 54 rfl) (wd hw 4 rfl) (wd hw 55 rfl) pd_y_5 rfl (st := [.int (own_dec 0 0)]) rfl rfl (G := [(a1185, o_Dig (.int 0) (.int 0) (.long 0) (.long 0) (.int 0) (.int 0) (.long 0) (.ref u1186) (.ref h1188) (.int 0) (.int 0)), (u1186, o_SB (.ref b1187) (.int 0) (.int 0)), (b1187, oBs (List.replicate 16 (.int 0))), (h1188, o_SB (.ref b1189) (.int 0) (.int 0))]) rfl rfl ?_
    rintro _ _ ⟨rfl, rfl⟩
    rw [own_law0  0]
    refine Goes.if2 X (pc' := 199) (o := 7) (cd := .ne) (fun q => absurd (q.symm.trans (by simp [if_icmp.holds] : if_icmp.holds .ne (Int32.ofNat (own_refN 0 [])) (Int32.ofNat (own_refN 0 [])) = false)) (by decide)) (fun _ => ?_)
    refine Goes.runS X [(.iconst 1, 1)] (S' := [.int (1 : Int32)]) (pc' := 196) rfl ?_
    refine Goes.goto X (o := 4) (pc' := 200) ?_
    refine Goes.retI X (by simp) rfl ?_
    exact rfl
  · refine Goes.runS X [(.iload_n 0, 1)] (S' := [.int n]) (pc' := 1) rfl ?_
    refine Goes.ldcI X (wd hw 0 rfl) ?_
    refine Goes.run X [(.iand, 1), (.bipush 7, 2), (.irem, 1), (.istore 4, 2)] (L' := #[.val (.int n), .val (.int sel), .val (.long raw), .second, .val (.int ((n &&& (2147483647 : Int32)) % (7 : Int32))), .unset, .unset]) (S' := []) (pc' := 9) rfl ?_
    rw [e1]
    show Goes _ _ _ _ _ _ _ _ _ _ _ _ _ _ _ _ _ _ [] 0 0 (mkF m 9 #[.val (.int n), .val (.int sel), .val (.long raw), .second, .val (.int (1 : Int32)), .unset, .unset] [])
    refine Goes.runS X [(.bipush 6, 2)] (S' := [.int (6 : Int32)]) (pc' := 11) rfl ?_
    refine Goes.newarr X (aty := .char) "[C" 6 6 (wd hw 1 rfl) (by decide +kernel) (by decide) (by decide) (fun a1190 => ?_)
    refine Goes.run X [(.astore 5, 2), (.aload 5, 2), (.iconst 0, 1), (.iload_n 1, 1), (.lload_n 2, 1), (.iconst 0, 1)] (L' := #[.val (.int n), .val (.int sel), .val (.long raw), .second, .val (.int (1 : Int32)), .val (.ref a1190), .unset]) (S' := [.int (0 : Int32), .long raw, .int sel, .int (0 : Int32), .ref a1190]) (pc' := 21) rfl ?_
    refine Goes.callS X 2 [] [0] (D_pick l Z a0 h0 hw sel raw 0) (wd hw 2 rfl) (wd hw 3 rfl) (wd hw 4 rfl) (wd hw 5 rfl) pd_y_0 rfl (st := [.int (0 : Int32), .ref a1190]) rfl rfl (G := [(a1190, ar "[C" .char [.int 0, .int 0, .int 0, .int 0, .int 0, .int 0])]) rfl rfl ?_
    rintro _ _ ⟨c1191, rfl, h0c1191, h1c1191, rfl⟩
    refine Goes.castore X 0 0 rfl (by decide) (by decide) (Nat.le_of_ble_eq_true rfl) ?_
    rw [own_nca h0c1191 h1c1191]
    refine Goes.runS X [(.aload 5, 2), (.iconst 1, 1), (.iload_n 1, 1), (.lload_n 2, 1), (.iconst 1, 1)] (S' := [.int (1 : Int32), .long raw, .int sel, .int (1 : Int32), .ref a1190]) (pc' := 31) rfl ?_
    refine Goes.callS X 2 [] [0] (D_pick l Z a0 h0 hw sel raw 1) (wd hw 2 rfl) (wd hw 3 rfl) (wd hw 4 rfl) (wd hw 5 rfl) pd_y_0 rfl (st := [.int (1 : Int32), .ref a1190]) rfl rfl (G := [(a1190, ar "[C" .char [.int c1191, .int 0, .int 0, .int 0, .int 0, .int 0])]) rfl rfl ?_
    rintro _ _ ⟨c1192, rfl, h0c1192, h1c1192, rfl⟩
    refine Goes.castore X 0 1 rfl (by decide) (by decide) (Nat.le_of_ble_eq_true rfl) ?_
    rw [own_nca h0c1192 h1c1192]
    refine Goes.runS X [(.aload 5, 2), (.iconst 2, 1), (.iload_n 1, 1), (.lload_n 2, 1), (.iconst 2, 1)] (S' := [.int (2 : Int32), .long raw, .int sel, .int (2 : Int32), .ref a1190]) (pc' := 41) rfl ?_
    refine Goes.callS X 2 [] [0] (D_pick l Z a0 h0 hw sel raw 2) (wd hw 2 rfl) (wd hw 3 rfl) (wd hw 4 rfl) (wd hw 5 rfl) pd_y_0 rfl (st := [.int (2 : Int32), .ref a1190]) rfl rfl (G := [(a1190, ar "[C" .char [.int c1191, .int c1192, .int 0, .int 0, .int 0, .int 0])]) rfl rfl ?_
    rintro _ _ ⟨c1193, rfl, h0c1193, h1c1193, rfl⟩
    refine Goes.castore X 0 2 rfl (by decide) (by decide) (Nat.le_of_ble_eq_true rfl) ?_
    rw [own_nca h0c1193 h1c1193]
    refine Goes.runS X [(.aload 5, 2), (.iconst 3, 1), (.iload_n 1, 1), (.lload_n 2, 1), (.iconst 3, 1)] (S' := [.int (3 : Int32), .long raw, .int sel, .int (3 : Int32), .ref a1190]) (pc' := 51) rfl ?_
    refine Goes.callS X 2 [] [0] (D_pick l Z a0 h0 hw sel raw 3) (wd hw 2 rfl) (wd hw 3 rfl) (wd hw 4 rfl) (wd hw 5 rfl) pd_y_0 rfl (st := [.int (3 : Int32), .ref a1190]) rfl rfl (G := [(a1190, ar "[C" .char [.int c1191, .int c1192, .int c1193, .int 0, .int 0, .int 0])]) rfl rfl ?_
    rintro _ _ ⟨c1194, rfl, h0c1194, h1c1194, rfl⟩
    refine Goes.castore X 0 3 rfl (by decide) (by decide) (Nat.le_of_ble_eq_true rfl) ?_
    rw [own_nca h0c1194 h1c1194]
    refine Goes.runS X [(.aload 5, 2), (.iconst 4, 1), (.iload_n 1, 1), (.lload_n 2, 1), (.iconst 4, 1)] (S' := [.int (4 : Int32), .long raw, .int sel, .int (4 : Int32), .ref a1190]) (pc' := 61) rfl ?_
    refine Goes.callS X 2 [] [0] (D_pick l Z a0 h0 hw sel raw 4) (wd hw 2 rfl) (wd hw 3 rfl) (wd hw 4 rfl) (wd hw 5 rfl) pd_y_0 rfl (st := [.int (4 : Int32), .ref a1190]) rfl rfl (G := [(a1190, ar "[C" .char [.int c1191, .int c1192, .int c1193, .int c1194, .int 0, .int 0])]) rfl rfl ?_
    rintro _ _ ⟨c1195, rfl, h0c1195, h1c1195, rfl⟩
    refine Goes.castore X 0 4 rfl (by decide) (by decide) (Nat.le_of_ble_eq_true rfl) ?_
    rw [own_nca h0c1195 h1c1195]
    refine Goes.runS X [(.aload 5, 2), (.iconst 5, 1), (.iload_n 1, 1), (.lload_n 2, 1), (.iconst 5, 1)] (S' := [.int (5 : Int32), .long raw, .int sel, .int (5 : Int32), .ref a1190]) (pc' := 71) rfl ?_
    refine Goes.callS X 2 [] [0] (D_pick l Z a0 h0 hw sel raw 5) (wd hw 2 rfl) (wd hw 3 rfl) (wd hw 4 rfl) (wd hw 5 rfl) pd_y_0 rfl (st := [.int (5 : Int32), .ref a1190]) rfl rfl (G := [(a1190, ar "[C" .char [.int c1191, .int c1192, .int c1193, .int c1194, .int c1195, .int 0])]) rfl rfl ?_
    rintro _ _ ⟨c1196, rfl, h0c1196, h1c1196, rfl⟩
    refine Goes.castore X 0 5 rfl (by decide) (by decide) (Nat.le_of_ble_eq_true rfl) ?_
    rw [own_nca h0c1196 h1c1196]
    refine Goes.new X _ (wd hw 7 rfl) (wd hw 8 rfl) (wd hw 9 rfl) (new_Dig hw) (fun a1197 => ?_)
    refine Goes.runS X [(.dup, 1), (.iconst 0, 1)] (S' := [.int (0 : Int32), .ref a1197, .ref a1197]) (pc' := 80) rfl ?_
    refine Goes.callN X 1 [1] [0] (D_dctor l Z a0 h0 hw cs hCS hcs a1197) rfl (wd hw 10 rfl) (wd hw 11 rfl) (wd hw 9 rfl) (wd hw 12 rfl) pd_y_1 rfl (st := [.ref a1197]) rfl rfl (G := [(a1190, ar "[C" .char [.int c1191, .int c1192, .int c1193, .int c1194, .int c1195, .int c1196])]) rfl rfl ?_
    rintro _ _ ⟨u1198, b1199, h1200, b1201, rfl, rfl⟩
    refine Goes.run X [(.astore 6, 2), (.iload 4, 2)] (L' := #[.val (.int n), .val (.int sel), .val (.long raw), .second, .val (.int (1 : Int32)), .val (.ref a1190), .val (.ref a1197)]) (S' := [.int (1 : Int32)]) (pc' := 87) rfl ?_
    refine Goes.if1 X (pc' := 100) (o := 13) (cd := .le) (fun q => absurd q (by decide)) (fun _ => ?_)
    refine Goes.runS X [(.aload 6, 2), (.aload 5, 2), (.iconst 0, 1)] (S' := [.int (0 : Int32), .ref a1190, .ref a1197]) (pc' := 95) rfl ?_
    refine Goes.caload X 4 0 rfl (by decide) (by decide) rfl ?_
    refine Goes.callV X 0 0 [0, 1, 2, 3] [4] rfl (D_add l Z a0 h0 hw cs hCS hcs a1197 u1198 h1200 b1199 (.ref b1201) 0 0 (Or.inl rfl : own_ok 0) 0 0 0 0 0 0 (by omega) (List.replicate 16 (.int 0)) (by decide) c1191 (own_le h1c1191)) (wd hw 56 rfl) (wd hw 57 rfl) (wd hw 59 rfl) (wd hw 58 rfl) (own_nf X (wd hw 59 rfl)) (wd hw 9 rfl) (wd hw 60 rfl) pd_y_6 rfl (st := []) rfl rfl (G := [(a1190, ar "[C" .char [.int c1191, .int c1192, .int c1193, .int c1194, .int c1195, .int c1196])]) rfl rfl ?_
    rintro _ _ ⟨r1202, sg1203, pl1204, ne1205, ed1206, ex1207, k1208, bs1209, rfl, hk1210, hbs1211, rfl⟩
    obtain ⟨s1212, hs1213⟩ : ∃ z, (own_st 0 c1191) = z := ⟨_, rfl⟩
    obtain ⟨e1214, he1215⟩ : ∃ z, (own_en 0 0 c1191) = z := ⟨_, rfl⟩
    rw [hs1213, he1215]
    refine Goes.runS X [(.pop, 1), (.iload 4, 2), (.iconst 1, 1)] (S' := [.int (1 : Int32), .int (1 : Int32)]) (pc' := 103) rfl ?_
    refine Goes.if2 X (pc' := 116) (o := 13) (cd := .le) (fun _ => ?_) (fun q => absurd q (by decide))
    refine Goes.runS X [(.iload 4, 2), (.iconst 2, 1)] (S' := [.int (2 : Int32), .int (1 : Int32)]) (pc' := 119) rfl ?_
    refine Goes.if2 X (pc' := 132) (o := 13) (cd := .le) (fun _ => ?_) (fun q => absurd q (by decide))
    refine Goes.runS X [(.iload 4, 2), (.iconst 3, 1)] (S' := [.int (3 : Int32), .int (1 : Int32)]) (pc' := 135) rfl ?_
    refine Goes.if2 X (pc' := 148) (o := 13) (cd := .le) (fun _ => ?_) (fun q => absurd q (by decide))
    refine Goes.runS X [(.iload 4, 2), (.iconst 4, 1)] (S' := [.int (4 : Int32), .int (1 : Int32)]) (pc' := 151) rfl ?_
    refine Goes.if2 X (pc' := 164) (o := 13) (cd := .le) (fun _ => ?_) (fun q => absurd q (by decide))
    refine Goes.runS X [(.iload 4, 2), (.iconst 5, 1)] (S' := [.int (5 : Int32), .int (1 : Int32)]) (pc' := 167) rfl ?_
    refine Goes.if2 X (pc' := 180) (o := 13) (cd := .le) (fun _ => ?_) (fun q => absurd q (by decide))
    refine Goes.runS X [(.aload 6, 2)] (S' := [.ref a1197]) (pc' := 182) rfl ?_
    refine Goes.callV X 0 0 [0] [1, 2, 3, 4] rfl (D_dec l Z a0 h0 hw a1197 s1212 e1214 (.long sg1203) (.long pl1204) (.int ne1205) (.int ed1206) (.long ex1207) (.ref u1198) (.ref h1200) (.int 0) (.int 0)) (wd hw 46 rfl) (wd hw 47 rfl) (wd hw 49 rfl) (wd hw 48 rfl) (own_nf X (wd hw 49 rfl)) (wd hw 9 rfl) (wd hw 50 rfl) pd_y_4 rfl (st := []) rfl rfl (G := [(u1198, o_SB (.ref b1199) (.int 0) (.int (Int32.ofNat k1208))), (b1199, oBs bs1209), (h1200, o_SB (.ref b1201) (.int 0) (.int 0)), (a1190, ar "[C" .char [.int c1191, .int c1192, .int c1193, .int c1194, .int c1195, .int c1196])]) rfl rfl ?_
    rintro _ _ ⟨rfl, rfl⟩
    refine Goes.runS X [(.aload 5, 2), (.iload 4, 2)] (S' := [.int (1 : Int32), .ref a1190, .int (own_dec s1212 e1214)]) (pc' := 189) rfl ?_
    refine Goes.callS X 1 [4] [0, 1, 2, 3] (D_ref1 l Z a0 h0 hw a1190 c1191 c1192 c1193 c1194 c1195 c1196) (wd hw 53 rfl) (wd hw 54 rfl) (wd hw 4 rfl) (wd hw 55 rfl) pd_y_5 rfl (st := [.int (own_dec s1212 e1214)]) rfl rfl (G := [(a1197, o_Dig (.int s1212) (.int e1214) (.long sg1203) (.long pl1204) (.int ne1205) (.int ed1206) (.long ex1207) (.ref u1198) (.ref h1200) (.int 0) (.int 0)), (u1198, o_SB (.ref b1199) (.int 0) (.int (Int32.ofNat k1208))), (b1199, oBs bs1209), (h1200, o_SB (.ref b1201) (.int 0) (.int 0))]) rfl rfl ?_
    rintro _ _ ⟨rfl, rfl⟩
    subst he1215
    subst hs1213
    rw [own_law1 c1191 0]
    refine Goes.if2 X (pc' := 199) (o := 7) (cd := .ne) (fun q => absurd (q.symm.trans (by simp [if_icmp.holds] : if_icmp.holds .ne (Int32.ofNat (own_refN 1 [(own_cl c1191)])) (Int32.ofNat (own_refN 1 [(own_cl c1191)])) = false)) (by decide)) (fun _ => ?_)
    refine Goes.runS X [(.iconst 1, 1)] (S' := [.int (1 : Int32)]) (pc' := 196) rfl ?_
    refine Goes.goto X (o := 4) (pc' := 200) ?_
    refine Goes.retI X (by simp) rfl ?_
    exact rfl
  · refine Goes.runS X [(.iload_n 0, 1)] (S' := [.int n]) (pc' := 1) rfl ?_
    refine Goes.ldcI X (wd hw 0 rfl) ?_
    refine Goes.run X [(.iand, 1), (.bipush 7, 2), (.irem, 1), (.istore 4, 2)] (L' := #[.val (.int n), .val (.int sel), .val (.long raw), .second, .val (.int ((n &&& (2147483647 : Int32)) % (7 : Int32))), .unset, .unset]) (S' := []) (pc' := 9) rfl ?_
    rw [e2]
    show Goes _ _ _ _ _ _ _ _ _ _ _ _ _ _ _ _ _ _ [] 0 0 (mkF m 9 #[.val (.int n), .val (.int sel), .val (.long raw), .second, .val (.int (2 : Int32)), .unset, .unset] [])
    refine Goes.runS X [(.bipush 6, 2)] (S' := [.int (6 : Int32)]) (pc' := 11) rfl ?_
    refine Goes.newarr X (aty := .char) "[C" 6 6 (wd hw 1 rfl) (by decide +kernel) (by decide) (by decide) (fun a1216 => ?_)
    refine Goes.run X [(.astore 5, 2), (.aload 5, 2), (.iconst 0, 1), (.iload_n 1, 1), (.lload_n 2, 1), (.iconst 0, 1)] (L' := #[.val (.int n), .val (.int sel), .val (.long raw), .second, .val (.int (2 : Int32)), .val (.ref a1216), .unset]) (S' := [.int (0 : Int32), .long raw, .int sel, .int (0 : Int32), .ref a1216]) (pc' := 21) rfl ?_
    refine Goes.callS X 2 [] [0] (D_pick l Z a0 h0 hw sel raw 0) (wd hw 2 rfl) (wd hw 3 rfl) (wd hw 4 rfl) (wd hw 5 rfl) pd_y_0 rfl (st := [.int (0 : Int32), .ref a1216]) rfl rfl (G := [(a1216, ar "[C" .char [.int 0, .int 0, .int 0, .int 0, .int 0, .int 0])]) rfl rfl ?_
    rintro _ _ ⟨c1217, rfl, h0c1217, h1c1217, rfl⟩
    refine Goes.castore X 0 0 rfl (by decide) (by decide) (Nat.le_of_ble_eq_true rfl) ?_
    rw [own_nca h0c1217 h1c1217]
    refine Goes.runS X [(.aload 5, 2), (.iconst 1, 1), (.iload_n 1, 1), (.lload_n 2, 1), (.iconst 1, 1)] (S' := [.int (1 : Int32), .long raw, .int sel, .int (1 : Int32), .ref a1216]) (pc' := 31) rfl ?_
    refine Goes.callS X 2 [] [0] (D_pick l Z a0 h0 hw sel raw 1) (wd hw 2 rfl) (wd hw 3 rfl) (wd hw 4 rfl) (wd hw 5 rfl) pd_y_0 rfl (st := [.int (1 : Int32), .ref a1216]) rfl rfl (G := [(a1216, ar "[C" .char [.int c1217, .int 0, .int 0, .int 0, .int 0, .int 0])]) rfl rfl ?_
    rintro _ _ ⟨c1218, rfl, h0c1218, h1c1218, rfl⟩
    refine Goes.castore X 0 1 rfl (by decide) (by decide) (Nat.le_of_ble_eq_true rfl) ?_
    rw [own_nca h0c1218 h1c1218]
    refine Goes.runS X [(.aload 5, 2), (.iconst 2, 1), (.iload_n 1, 1), (.lload_n 2, 1), (.iconst 2, 1)] (S' := [.int (2 : Int32), .long raw, .int sel, .int (2 : Int32), .ref a1216]) (pc' := 41) rfl ?_
    refine Goes.callS X 2 [] [0] (D_pick l Z a0 h0 hw sel raw 2) (wd hw 2 rfl) (wd hw 3 rfl) (wd hw 4 rfl) (wd hw 5 rfl) pd_y_0 rfl (st := [.int (2 : Int32), .ref a1216]) rfl rfl (G := [(a1216, ar "[C" .char [.int c1217, .int c1218, .int 0, .int 0, .int 0, .int 0])]) rfl rfl ?_
    rintro _ _ ⟨c1219, rfl, h0c1219, h1c1219, rfl⟩
    refine Goes.castore X 0 2 rfl (by decide) (by decide) (Nat.le_of_ble_eq_true rfl) ?_
    rw [own_nca h0c1219 h1c1219]
    refine Goes.runS X [(.aload 5, 2), (.iconst 3, 1), (.iload_n 1, 1), (.lload_n 2, 1), (.iconst 3, 1)] (S' := [.int (3 : Int32), .long raw, .int sel, .int (3 : Int32), .ref a1216]) (pc' := 51) rfl ?_
    refine Goes.callS X 2 [] [0] (D_pick l Z a0 h0 hw sel raw 3) (wd hw 2 rfl) (wd hw 3 rfl) (wd hw 4 rfl) (wd hw 5 rfl) pd_y_0 rfl (st := [.int (3 : Int32), .ref a1216]) rfl rfl (G := [(a1216, ar "[C" .char [.int c1217, .int c1218, .int c1219, .int 0, .int 0, .int 0])]) rfl rfl ?_
    rintro _ _ ⟨c1220, rfl, h0c1220, h1c1220, rfl⟩
    refine Goes.castore X 0 3 rfl (by decide) (by decide) (Nat.le_of_ble_eq_true rfl) ?_
    rw [own_nca h0c1220 h1c1220]
    refine Goes.runS X [(.aload 5, 2), (.iconst 4, 1), (.iload_n 1, 1), (.lload_n 2, 1), (.iconst 4, 1)] (S' := [.int (4 : Int32), .long raw, .int sel, .int (4 : Int32), .ref a1216]) (pc' := 61) rfl ?_
    refine Goes.callS X 2 [] [0] (D_pick l Z a0 h0 hw sel raw 4) (wd hw 2 rfl) (wd hw 3 rfl) (wd hw 4 rfl) (wd hw 5 rfl) pd_y_0 rfl (st := [.int (4 : Int32), .ref a1216]) rfl rfl (G := [(a1216, ar "[C" .char [.int c1217, .int c1218, .int c1219, .int c1220, .int 0, .int 0])]) rfl rfl ?_
    rintro _ _ ⟨c1221, rfl, h0c1221, h1c1221, rfl⟩
    refine Goes.castore X 0 4 rfl (by decide) (by decide) (Nat.le_of_ble_eq_true rfl) ?_
    rw [own_nca h0c1221 h1c1221]
    refine Goes.runS X [(.aload 5, 2), (.iconst 5, 1), (.iload_n 1, 1), (.lload_n 2, 1), (.iconst 5, 1)] (S' := [.int (5 : Int32), .long raw, .int sel, .int (5 : Int32), .ref a1216]) (pc' := 71) rfl ?_
    refine Goes.callS X 2 [] [0] (D_pick l Z a0 h0 hw sel raw 5) (wd hw 2 rfl) (wd hw 3 rfl) (wd hw 4 rfl) (wd hw 5 rfl) pd_y_0 rfl (st := [.int (5 : Int32), .ref a1216]) rfl rfl (G := [(a1216, ar "[C" .char [.int c1217, .int c1218, .int c1219, .int c1220, .int c1221, .int 0])]) rfl rfl ?_
    rintro _ _ ⟨c1222, rfl, h0c1222, h1c1222, rfl⟩
    refine Goes.castore X 0 5 rfl (by decide) (by decide) (Nat.le_of_ble_eq_true rfl) ?_
    rw [own_nca h0c1222 h1c1222]
    refine Goes.new X _ (wd hw 7 rfl) (wd hw 8 rfl) (wd hw 9 rfl) (new_Dig hw) (fun a1223 => ?_)
    refine Goes.runS X [(.dup, 1), (.iconst 0, 1)] (S' := [.int (0 : Int32), .ref a1223, .ref a1223]) (pc' := 80) rfl ?_
    refine Goes.callN X 1 [1] [0] (D_dctor l Z a0 h0 hw cs hCS hcs a1223) rfl (wd hw 10 rfl) (wd hw 11 rfl) (wd hw 9 rfl) (wd hw 12 rfl) pd_y_1 rfl (st := [.ref a1223]) rfl rfl (G := [(a1216, ar "[C" .char [.int c1217, .int c1218, .int c1219, .int c1220, .int c1221, .int c1222])]) rfl rfl ?_
    rintro _ _ ⟨u1224, b1225, h1226, b1227, rfl, rfl⟩
    refine Goes.run X [(.astore 6, 2), (.iload 4, 2)] (L' := #[.val (.int n), .val (.int sel), .val (.long raw), .second, .val (.int (2 : Int32)), .val (.ref a1216), .val (.ref a1223)]) (S' := [.int (2 : Int32)]) (pc' := 87) rfl ?_
    refine Goes.if1 X (pc' := 100) (o := 13) (cd := .le) (fun q => absurd q (by decide)) (fun _ => ?_)
    refine Goes.runS X [(.aload 6, 2), (.aload 5, 2), (.iconst 0, 1)] (S' := [.int (0 : Int32), .ref a1216, .ref a1223]) (pc' := 95) rfl ?_
    refine Goes.caload X 4 0 rfl (by decide) (by decide) rfl ?_
    refine Goes.callV X 0 0 [0, 1, 2, 3] [4] rfl (D_add l Z a0 h0 hw cs hCS hcs a1223 u1224 h1226 b1225 (.ref b1227) 0 0 (Or.inl rfl : own_ok 0) 0 0 0 0 0 0 (by omega) (List.replicate 16 (.int 0)) (by decide) c1217 (own_le h1c1217)) (wd hw 56 rfl) (wd hw 57 rfl) (wd hw 59 rfl) (wd hw 58 rfl) (own_nf X (wd hw 59 rfl)) (wd hw 9 rfl) (wd hw 60 rfl) pd_y_6 rfl (st := []) rfl rfl (G := [(a1216, ar "[C" .char [.int c1217, .int c1218, .int c1219, .int c1220, .int c1221, .int c1222])]) rfl rfl ?_
    rintro _ _ ⟨r1228, sg1229, pl1230, ne1231, ed1232, ex1233, k1234, bs1235, rfl, hk1236, hbs1237, rfl⟩
    obtain ⟨s1238, hs1239⟩ : ∃ z, (own_st 0 c1217) = z := ⟨_, rfl⟩
    obtain ⟨e1240, he1241⟩ : ∃ z, (own_en 0 0 c1217) = z := ⟨_, rfl⟩
    rw [hs1239, he1241]
    refine Goes.runS X [(.pop, 1), (.iload 4, 2), (.iconst 1, 1)] (S' := [.int (1 : Int32), .int (2 : Int32)]) (pc' := 103) rfl ?_
    refine Goes.if2 X (pc' := 116) (o := 13) (cd := .le) (fun q => absurd q (by decide)) (fun _ => ?_)
    refine Goes.runS X [(.aload 6, 2), (.aload 5, 2), (.iconst 1, 1)] (S' := [.int (1 : Int32), .ref a1216, .ref a1223]) (pc' := 111) rfl ?_
    refine Goes.caload X 4 1 rfl (by decide) (by decide) rfl ?_
    refine Goes.callV X 0 0 [0, 1, 2, 3] [4] rfl (D_add l Z a0 h0 hw cs hCS hcs a1223 u1224 h1226 b1225 (.ref b1227) s1238 e1240 (hs1239 ▸ own_st_ok c1217 (Or.inl rfl : own_ok 0)) sg1229 pl1230 ne1231 ed1232 ex1233 k1234 (by omega) bs1235 hbs1237 c1218 (own_le h1c1218)) (wd hw 56 rfl) (wd hw 57 rfl) (wd hw 59 rfl) (wd hw 58 rfl) (own_nf X (wd hw 59 rfl)) (wd hw 9 rfl) (wd hw 60 rfl) pd_y_6 rfl (st := []) rfl rfl (G := [(a1216, ar "[C" .char [.int c1217, .int c1218, .int c1219, .int c1220, .int c1221, .int c1222])]) rfl rfl ?_
    rintro _ _ ⟨r1242, sg1243, pl1244, ne1245, ed1246, ex1247, k1248, bs1249, rfl, hk1250, hbs1251, rfl⟩
    obtain ⟨s1252, hs1253⟩ : ∃ z, (own_st s1238 c1218) = z := ⟨_, rfl⟩
    obtain ⟨e1254, he1255⟩ : ∃ z, (own_en e1240 s1238 c1218) = z := ⟨_, rfl⟩
    rw [hs1253, he1255]
    refine Goes.runS X [(.pop, 1), (.iload 4, 2), (.iconst 2, 1)] (S' := [.int (2 : Int32), .int (2 : Int32)]) (pc' := 119) rfl ?_
    refine Goes.if2 X (pc' := 132) (o := 13) (cd := .le) (fun _ => ?_) (fun q => absurd q (by decide))
    refine Goes.runS X [(.iload 4, 2), (.iconst 3, 1)] (S' := [.int (3 : Int32), .int (2 : Int32)]) (pc' := 135) rfl ?_
    refine Goes.if2 X (pc' := 148) (o := 13) (cd := .le) (fun _ => ?_) (fun q => absurd q (by decide))
    refine Goes.runS X [(.iload 4, 2), (.iconst 4, 1)] (S' := [.int (4 : Int32), .int (2 : Int32)]) (pc' := 151) rfl ?_
    refine Goes.if2 X (pc' := 164) (o := 13) (cd := .le) (fun _ => ?_) (fun q => absurd q (by decide))
    refine Goes.runS X [(.iload 4, 2), (.iconst 5, 1)] (S' := [.int (5 : Int32), .int (2 : Int32)]) (pc' := 167) rfl ?_
    refine Goes.if2 X (pc' := 180) (o := 13) (cd := .le) (fun _ => ?_) (fun q => absurd q (by decide))
    refine Goes.runS X [(.aload 6, 2)] (S' := [.ref a1223]) (pc' := 182) rfl ?_
    refine Goes.callV X 0 0 [0] [1, 2, 3, 4] rfl (D_dec l Z a0 h0 hw a1223 s1252 e1254 (.long sg1243) (.long pl1244) (.int ne1245) (.int ed1246) (.long ex1247) (.ref u1224) (.ref h1226) (.int 0) (.int 0)) (wd hw 46 rfl) (wd hw 47 rfl) (wd hw 49 rfl) (wd hw 48 rfl) (own_nf X (wd hw 49 rfl)) (wd hw 9 rfl) (wd hw 50 rfl) pd_y_4 rfl (st := []) rfl rfl (G := [(u1224, o_SB (.ref b1225) (.int 0) (.int (Int32.ofNat k1248))), (b1225, oBs bs1249), (h1226, o_SB (.ref b1227) (.int 0) (.int 0)), (a1216, ar "[C" .char [.int c1217, .int c1218, .int c1219, .int c1220, .int c1221, .int c1222])]) rfl rfl ?_
    rintro _ _ ⟨rfl, rfl⟩
    refine Goes.runS X [(.aload 5, 2), (.iload 4, 2)] (S' := [.int (2 : Int32), .ref a1216, .int (own_dec s1252 e1254)]) (pc' := 189) rfl ?_
    refine Goes.callS X 1 [4] [0, 1, 2, 3] (D_ref2 l Z a0 h0 hw a1216 c1217 c1218 c1219 c1220 c1221 c1222) (wd hw 53 rfl) (wd hw 54 rfl) (wd hw 4 rfl) (wd hw 55 rfl) pd_y_5 rfl (st := [.int (own_dec s1252 e1254)]) rfl rfl (G := [(a1223, o_Dig (.int s1252) (.int e1254) (.long sg1243) (.long pl1244) (.int ne1245) (.int ed1246) (.long ex1247) (.ref u1224) (.ref h1226) (.int 0) (.int 0)), (u1224, o_SB (.ref b1225) (.int 0) (.int (Int32.ofNat k1248))), (b1225, oBs bs1249), (h1226, o_SB (.ref b1227) (.int 0) (.int 0))]) rfl rfl ?_
    rintro _ _ ⟨rfl, rfl⟩
    subst he1255
    subst hs1253
    subst he1241
    subst hs1239
    rw [own_law2 c1217 c1218 0]
    refine Goes.if2 X (pc' := 199) (o := 7) (cd := .ne) (fun q => absurd (q.symm.trans (by simp [if_icmp.holds] : if_icmp.holds .ne (Int32.ofNat (own_refN 2 [(own_cl c1217), (own_cl c1218)])) (Int32.ofNat (own_refN 2 [(own_cl c1217), (own_cl c1218)])) = false)) (by decide)) (fun _ => ?_)
    refine Goes.runS X [(.iconst 1, 1)] (S' := [.int (1 : Int32)]) (pc' := 196) rfl ?_
    refine Goes.goto X (o := 4) (pc' := 200) ?_
    refine Goes.retI X (by simp) rfl ?_
    exact rfl
  · refine Goes.runS X [(.iload_n 0, 1)] (S' := [.int n]) (pc' := 1) rfl ?_
    refine Goes.ldcI X (wd hw 0 rfl) ?_
    refine Goes.run X [(.iand, 1), (.bipush 7, 2), (.irem, 1), (.istore 4, 2)] (L' := #[.val (.int n), .val (.int sel), .val (.long raw), .second, .val (.int ((n &&& (2147483647 : Int32)) % (7 : Int32))), .unset, .unset]) (S' := []) (pc' := 9) rfl ?_
    rw [e3]
    show Goes _ _ _ _ _ _ _ _ _ _ _ _ _ _ _ _ _ _ [] 0 0 (mkF m 9 #[.val (.int n), .val (.int sel), .val (.long raw), .second, .val (.int (3 : Int32)), .unset, .unset] [])
    refine Goes.runS X [(.bipush 6, 2)] (S' := [.int (6 : Int32)]) (pc' := 11) rfl ?_
    refine Goes.newarr X (aty := .char) "[C" 6 6 (wd hw 1 rfl) (by decide +kernel) (by decide) (by decide) (fun a1256 => ?_)
    refine Goes.run X [(.astore 5, 2), (.aload 5, 2), (.iconst 0, 1), (.iload_n 1, 1), (.lload_n 2, 1), (.iconst 0, 1)] (L' := #[.val (.int n), .val (.int sel), .val (.long raw), .second, .val (.int (3 : Int32)), .val (.ref a1256), .unset]) (S' := [.int (0 : Int32), .long raw, .int sel, .int (0 : Int32), .ref a1256]) (pc' := 21) rfl ?_
    refine Goes.callS X 2 [] [0] (D_pick l Z a0 h0 hw sel raw 0) (wd hw 2 rfl) (wd hw 3 rfl) (wd hw 4 rfl) (wd hw 5 rfl) pd_y_0 rfl (st := [.int (0 : Int32), .ref a1256]) rfl rfl (G := [(a1256, ar "[C" .char [.int 0, .int 0, .int 0, .int 0, .int 0, .int 0])]) rfl rfl ?_
    rintro _ _ ⟨c1257, rfl, h0c1257, h1c1257, rfl⟩
    refine Goes.castore X 0 0 rfl (by decide) (by decide) (Nat.le_of_ble_eq_true rfl) ?_
    rw [own_nca h0c1257 h1c1257]
    refine Goes.runS X [(.aload 5, 2), (.iconst 1, 1), (.iload_n 1, 1), (.lload_n 2, 1), (.iconst 1, 1)] (S' := [.int (1 : Int32), .long raw, .int sel, .int (1 : Int32), .ref a1256]) (pc' := 31) rfl ?_
    refine Goes.callS X 2 [] [0] (D_pick l Z a0 h0 hw sel raw 1) (wd hw 2 rfl) (wd hw 3 rfl) (wd hw 4 rfl) (wd hw 5 rfl) pd_y_0 rfl (st := [.int (1 : Int32), .ref a1256]) rfl rfl (G := [(a1256, ar "[C" .char [.int c1257, .int 0, .int 0, .int 0, .int 0, .int 0])]) rfl rfl ?_
    rintro _ _ ⟨c1258, rfl, h0c1258, h1c1258, rfl⟩
    refine Goes.castore X 0 1 rfl (by decide) (by decide) (Nat.le_of_ble_eq_true rfl) ?_
    rw [own_nca h0c1258 h1c1258]
    refine Goes.runS X [(.aload 5, 2), (.iconst 2, 1), (.iload_n 1, 1), (.lload_n 2, 1), (.iconst 2, 1)] (S' := [.int (2 : Int32), .long raw, .int sel, .int (2 : Int32), .ref a1256]) (pc' := 41) rfl ?_
    refine Goes.callS X 2 [] [0] (D_pick l Z a0 h0 hw sel raw 2) (wd hw 2 rfl) (wd hw 3 rfl) (wd hw 4 rfl) (wd hw 5 rfl) pd_y_0 rfl (st := [.int (2 : Int32), .ref a1256]) rfl rfl (G := [(a1256, ar "[C" .char [.int c1257, .int c1258, .int 0, .int 0, .int 0, .int 0])]) rfl rfl ?_
    rintro _ _ ⟨c1259, rfl, h0c1259, h1c1259, rfl⟩
    refine Goes.castore X 0 2 rfl (by decide) (by decide) (Nat.le_of_ble_eq_true rfl) ?_
    rw [own_nca h0c1259 h1c1259]
    refine Goes.runS X [(.aload 5, 2), (.iconst 3, 1), (.iload_n 1, 1), (.lload_n 2, 1), (.iconst 3, 1)] (S' := [.int (3 : Int32), .long raw, .int sel, .int (3 : Int32), .ref a1256]) (pc' := 51) rfl ?_
    refine Goes.callS X 2 [] [0] (D_pick l Z a0 h0 hw sel raw 3) (wd hw 2 rfl) (wd hw 3 rfl) (wd hw 4 rfl) (wd hw 5 rfl) pd_y_0 rfl (st := [.int (3 : Int32), .ref a1256]) rfl rfl (G := [(a1256, ar "[C" .char [.int c1257, .int c1258, .int c1259, .int 0, .int 0, .int 0])]) rfl rfl ?_
    rintro _ _ ⟨c1260, rfl, h0c1260, h1c1260, rfl⟩
    refine Goes.castore X 0 3 rfl (by decide) (by decide) (Nat.le_of_ble_eq_true rfl) ?_
    rw [own_nca h0c1260 h1c1260]
    refine Goes.runS X [(.aload 5, 2), (.iconst 4, 1), (.iload_n 1, 1), (.lload_n 2, 1), (.iconst 4, 1)] (S' := [.int (4 : Int32), .long raw, .int sel, .int (4 : Int32), .ref a1256]) (pc' := 61) rfl ?_
    refine Goes.callS X 2 [] [0] (D_pick l Z a0 h0 hw sel raw 4) (wd hw 2 rfl) (wd hw 3 rfl) (wd hw 4 rfl) (wd hw 5 rfl) pd_y_0 rfl (st := [.int (4 : Int32), .ref a1256]) rfl rfl (G := [(a1256, ar "[C" .char [.int c1257, .int c1258, .int c1259, .int c1260, .int 0, .int 0])]) rfl rfl ?_
    rintro _ _ ⟨c1261, rfl, h0c1261, h1c1261, rfl⟩
    refine Goes.castore X 0 4 rfl (by decide) (by decide) (Nat.le_of_ble_eq_true rfl) ?_
    rw [own_nca h0c1261 h1c1261]
    refine Goes.runS X [(.aload 5, 2), (.iconst 5, 1), (.iload_n 1, 1), (.lload_n 2, 1), (.iconst 5, 1)] (S' := [.int (5 : Int32), .long raw, .int sel, .int (5 : Int32), .ref a1256]) (pc' := 71) rfl ?_
    refine Goes.callS X 2 [] [0] (D_pick l Z a0 h0 hw sel raw 5) (wd hw 2 rfl) (wd hw 3 rfl) (wd hw 4 rfl) (wd hw 5 rfl) pd_y_0 rfl (st := [.int (5 : Int32), .ref a1256]) rfl rfl (G := [(a1256, ar "[C" .char [.int c1257, .int c1258, .int c1259, .int c1260, .int c1261, .int 0])]) rfl rfl ?_
    rintro _ _ ⟨c1262, rfl, h0c1262, h1c1262, rfl⟩
    refine Goes.castore X 0 5 rfl (by decide) (by decide) (Nat.le_of_ble_eq_true rfl) ?_
    rw [own_nca h0c1262 h1c1262]
    refine Goes.new X _ (wd hw 7 rfl) (wd hw 8 rfl) (wd hw 9 rfl) (new_Dig hw) (fun a1263 => ?_)
    refine Goes.runS X [(.dup, 1), (.iconst 0, 1)] (S' := [.int (0 : Int32), .ref a1263, .ref a1263]) (pc' := 80) rfl ?_
    refine Goes.callN X 1 [1] [0] (D_dctor l Z a0 h0 hw cs hCS hcs a1263) rfl (wd hw 10 rfl) (wd hw 11 rfl) (wd hw 9 rfl) (wd hw 12 rfl) pd_y_1 rfl (st := [.ref a1263]) rfl rfl (G := [(a1256, ar "[C" .char [.int c1257, .int c1258, .int c1259, .int c1260, .int c1261, .int c1262])]) rfl rfl ?_
    rintro _ _ ⟨u1264, b1265, h1266, b1267, rfl, rfl⟩
    refine Goes.run X [(.astore 6, 2), (.iload 4, 2)] (L' := #[.val (.int n), .val (.int sel), .val (.long raw), .second, .val (.int (3 : Int32)), .val (.ref a1256), .val (.ref a1263)]) (S' := [.int (3 : Int32)]) (pc' := 87) rfl ?_
    refine Goes.if1 X (pc' := 100) (o := 13) (cd := .le) (fun q => absurd q (by decide)) (fun _ => ?_)
    refine Goes.runS X [(.aload 6, 2), (.aload 5, 2), (.iconst 0, 1)] (S' := [.int (0 : Int32), .ref a1256, .ref a1263]) (pc' := 95) rfl ?_
    refine Goes.caload X 4 0 rfl (by decide) (by decide) rfl ?_
    refine Goes.callV X 0 0 [0, 1, 2, 3] [4] rfl (D_add l Z a0 h0 hw cs hCS hcs a1263 u1264 h1266 b1265 (.ref b1267) 0 0 (Or.inl rfl : own_ok 0) 0 0 0 0 0 0 (by omega) (List.replicate 16 (.int 0)) (by decide) c1257 (own_le h1c1257)) (wd hw 56 rfl) (wd hw 57 rfl) (wd hw 59 rfl) (wd hw 58 rfl) (own_nf X (wd hw 59 rfl)) (wd hw 9 rfl) (wd hw 60 rfl) pd_y_6 rfl (st := []) rfl rfl (G := [(a1256, ar "[C" .char [.int c1257, .int c1258, .int c1259, .int c1260, .int c1261, .int c1262])]) rfl rfl ?_
    rintro _ _ ⟨r1268, sg1269, pl1270, ne1271, ed1272, ex1273, k1274, bs1275, rfl, hk1276, hbs1277, rfl⟩
    obtain ⟨s1278, hs1279⟩ : ∃ z, (own_st 0 c1257) = z := ⟨_, rfl⟩
    obtain ⟨e1280, he1281⟩ : ∃ z, (own_en 0 0 c1257) = z := ⟨_, rfl⟩
    rw [hs1279, he1281]
    refine Goes.runS X [(.pop, 1), (.iload 4, 2), (.iconst 1, 1)] (S' := [.int (1 : Int32), .int (3 : Int32)]) (pc' := 103) rfl ?_
    refine Goes.if2 X (pc' := 116) (o := 13) (cd := .le) (fun q => absurd q (by decide)) (fun _ => ?_)
    refine Goes.runS X [(.aload 6, 2), (.aload 5, 2), (.iconst 1, 1)] (S' := [.int (1 : Int32), .ref a1256, .ref a1263]) (pc' := 111) rfl ?_
    refine Goes.caload X 4 1 rfl (by decide) (by decide) rfl ?_
    refine Goes.callV X 0 0 [0, 1, 2, 3] [4] rfl (D_add l Z a0 h0 hw cs hCS hcs a1263 u1264 h1266 b1265 (.ref b1267) s1278 e1280 (hs1279 ▸ own_st_ok c1257 (Or.inl rfl : own_ok 0)) sg1269 pl1270 ne1271 ed1272 ex1273 k1274 (by omega) bs1275 hbs1277 c1258 (own_le h1c1258)) (wd hw 56 rfl) (wd hw 57 rfl) (wd hw 59 rfl) (wd hw 58 rfl) (own_nf X (wd hw 59 rfl)) (wd hw 9 rfl) (wd hw 60 rfl) pd_y_6 rfl (st := []) rfl rfl (G := [(a1256, ar "[C" .char [.int c1257, .int c1258, .int c1259, .int c1260, .int c1261, .int c1262])]) rfl rfl ?_
    rintro _ _ ⟨r1282, sg1283, pl1284, ne1285, ed1286, ex1287, k1288, bs1289, rfl, hk1290, hbs1291, rfl⟩
    obtain ⟨s1292, hs1293⟩ : ∃ z, (own_st s1278 c1258) = z := ⟨_, rfl⟩
    obtain ⟨e1294, he1295⟩ : ∃ z, (own_en e1280 s1278 c1258) = z := ⟨_, rfl⟩
    rw [hs1293, he1295]
    refine Goes.runS X [(.pop, 1), (.iload 4, 2), (.iconst 2, 1)] (S' := [.int (2 : Int32), .int (3 : Int32)]) (pc' := 119) rfl ?_
    refine Goes.if2 X (pc' := 132) (o := 13) (cd := .le) (fun q => absurd q (by decide)) (fun _ => ?_)
    refine Goes.runS X [(.aload 6, 2), (.aload 5, 2), (.iconst 2, 1)] (S' := [.int (2 : Int32), .ref a1256, .ref a1263]) (pc' := 127) rfl ?_
    refine Goes.caload X 4 2 rfl (by decide) (by decide) rfl ?_
    refine Goes.callV X 0 0 [0, 1, 2, 3] [4] rfl (D_add l Z a0 h0 hw cs hCS hcs a1263 u1264 h1266 b1265 (.ref b1267) s1292 e1294 (hs1293 ▸ own_st_ok c1258 (hs1279 ▸ own_st_ok c1257 (Or.inl rfl : own_ok 0))) sg1283 pl1284 ne1285 ed1286 ex1287 k1288 (by omega) bs1289 hbs1291 c1259 (own_le h1c1259)) (wd hw 56 rfl) (wd hw 57 rfl) (wd hw 59 rfl) (wd hw 58 rfl) (own_nf X (wd hw 59 rfl)) (wd hw 9 rfl) (wd hw 60 rfl) pd_y_6 rfl (st := []) rfl rfl (G := [(a1256, ar "[C" .char [.int c1257, .int c1258, .int c1259, .int c1260, .int c1261, .int c1262])]) rfl rfl ?_
    rintro _ _ ⟨r1296, sg1297, pl1298, ne1299, ed1300, ex1301, k1302, bs1303, rfl, hk1304, hbs1305, rfl⟩
    obtain ⟨s1306, hs1307⟩ : ∃ z, (own_st s1292 c1259) = z := ⟨_, rfl⟩
    obtain ⟨e1308, he1309⟩ : ∃ z, (own_en e1294 s1292 c1259) = z := ⟨_, rfl⟩
    rw [hs1307, he1309]
    refine Goes.runS X [(.pop, 1), (.iload 4, 2), (.iconst 3, 1)] (S' := [.int (3 : Int32), .int (3 : Int32)]) (pc' := 135) rfl ?_
    refine Goes.if2 X (pc' := 148) (o := 13) (cd := .le) (fun _ => ?_) (fun q => absurd q (by decide))
    refine Goes.runS X [(.iload 4, 2), (.iconst 4, 1)] (S' := [.int (4 : Int32), .int (3 : Int32)]) (pc' := 151) rfl ?_
    refine Goes.if2 X (pc' := 164) (o := 13) (cd := .le) (fun _ => ?_) (fun q => absurd q (by decide))
    refine Goes.runS X [(.iload 4, 2), (.iconst 5, 1)] (S' := [.int (5 : Int32), .int (3 : Int32)]) (pc' := 167) rfl ?_
    refine Goes.if2 X (pc' := 180) (o := 13) (cd := .le) (fun _ => ?_) (fun q => absurd q (by decide))
    refine Goes.runS X [(.aload 6, 2)] (S' := [.ref a1263]) (pc' := 182) rfl ?_
    refine Goes.callV X 0 0 [0] [1, 2, 3, 4] rfl (D_dec l Z a0 h0 hw a1263 s1306 e1308 (.long sg1297) (.long pl1298) (.int ne1299) (.int ed1300) (.long ex1301) (.ref u1264) (.ref h1266) (.int 0) (.int 0)) (wd hw 46 rfl) (wd hw 47 rfl) (wd hw 49 rfl) (wd hw 48 rfl) (own_nf X (wd hw 49 rfl)) (wd hw 9 rfl) (wd hw 50 rfl) pd_y_4 rfl (st := []) rfl rfl (G := [(u1264, o_SB (.ref b1265) (.int 0) (.int (Int32.ofNat k1302))), (b1265, oBs bs1303), (h1266, o_SB (.ref b1267) (.int 0) (.int 0)), (a1256, ar "[C" .char [.int c1257, .int c1258, .int c1259, .int c1260, .int c1261, .int c1262])]) rfl rfl ?_
    rintro _ _ ⟨rfl, rfl⟩
    refine Goes.runS X [(.aload 5, 2), (.iload 4, 2)] (S' := [.int (3 : Int32), .ref a1256, .int (own_dec s1306 e1308)]) (pc' := 189) rfl ?_
    refine Goes.callS X 1 [4] [0, 1, 2, 3] (D_ref3 l Z a0 h0 hw a1256 c1257 c1258 c1259 c1260 c1261 c1262) (wd hw 53 rfl) (wd hw 54 rfl) (wd hw 4 rfl) (wd hw 55 rfl) pd_y_5 rfl (st := [.int (own_dec s1306 e1308)]) rfl rfl (G := [(a1263, o_Dig (.int s1306) (.int e1308) (.long sg1297) (.long pl1298) (.int ne1299) (.int ed1300) (.long ex1301) (.ref u1264) (.ref h1266) (.int 0) (.int 0)), (u1264, o_SB (.ref b1265) (.int 0) (.int (Int32.ofNat k1302))), (b1265, oBs bs1303), (h1266, o_SB (.ref b1267) (.int 0) (.int 0))]) rfl rfl ?_
    rintro _ _ ⟨rfl, rfl⟩
    subst he1309
    subst hs1307
    subst he1295
    subst hs1293
    subst he1281
    subst hs1279
    rw [own_law3 c1257 c1258 c1259 0]
    refine Goes.if2 X (pc' := 199) (o := 7) (cd := .ne) (fun q => absurd (q.symm.trans (by simp [if_icmp.holds] : if_icmp.holds .ne (Int32.ofNat (own_refN 3 [(own_cl c1257), (own_cl c1258), (own_cl c1259)])) (Int32.ofNat (own_refN 3 [(own_cl c1257), (own_cl c1258), (own_cl c1259)])) = false)) (by decide)) (fun _ => ?_)
    refine Goes.runS X [(.iconst 1, 1)] (S' := [.int (1 : Int32)]) (pc' := 196) rfl ?_
    refine Goes.goto X (o := 4) (pc' := 200) ?_
    refine Goes.retI X (by simp) rfl ?_
    exact rfl
  · refine Goes.runS X [(.iload_n 0, 1)] (S' := [.int n]) (pc' := 1) rfl ?_
    refine Goes.ldcI X (wd hw 0 rfl) ?_
    refine Goes.run X [(.iand, 1), (.bipush 7, 2), (.irem, 1), (.istore 4, 2)] (L' := #[.val (.int n), .val (.int sel), .val (.long raw), .second, .val (.int ((n &&& (2147483647 : Int32)) % (7 : Int32))), .unset, .unset]) (S' := []) (pc' := 9) rfl ?_
    rw [e4]
    show Goes _ _ _ _ _ _ _ _ _ _ _ _ _ _ _ _ _ _ [] 0 0 (mkF m 9 #[.val (.int n), .val (.int sel), .val (.long raw), .second, .val (.int (4 : Int32)), .unset, .unset] [])
    refine Goes.runS X [(.bipush 6, 2)] (S' := [.int (6 : Int32)]) (pc' := 11) rfl ?_
    refine Goes.newarr X (aty := .char) "[C" 6 6 (wd hw 1 rfl) (by decide +kernel) (by decide) (by decide) (fun a1310 => ?_)
    refine Goes.run X [(.astore 5, 2), (.aload 5, 2), (.iconst 0, 1), (.iload_n 1, 1), (.lload_n 2, 1), (.iconst 0, 1)] (L' := #[.val (.int n), .val (.int sel), .val (.long raw), .second, .val (.int (4 : Int32)), .val (.ref a1310), .unset]) (S' := [.int (0 : Int32), .long raw, .int sel, .int (0 : Int32), .ref a1310]) (pc' := 21) rfl ?_
    refine Goes.callS X 2 [] [0] (D_pick l Z a0 h0 hw sel raw 0) (wd hw 2 rfl) (wd hw 3 rfl) (wd hw 4 rfl) (wd hw 5 rfl) pd_y_0 rfl (st := [.int (0 : Int32), .ref a1310]) rfl rfl (G := [(a1310, ar "[C" .char [.int 0, .int 0, .int 0, .int 0, .int 0, .int 0])]) rfl rfl ?_
    rintro _ _ ⟨c1311, rfl, h0c1311, h1c1311, rfl⟩
    refine Goes.castore X 0 0 rfl (by decide) (by decide) (Nat.le_of_ble_eq_true rfl) ?_
    rw [own_nca h0c1311 h1c1311]
    refine Goes.runS X [(.aload 5, 2), (.iconst 1, 1), (.iload_n 1, 1), (.lload_n 2, 1), (.iconst 1, 1)] (S' := [.int (1 : Int32), .long raw, .int sel, .int (1 : Int32), .ref a1310]) (pc' := 31) rfl ?_
    refine Goes.callS X 2 [] [0] (D_pick l Z a0 h0 hw sel raw 1) (wd hw 2 rfl) (wd hw 3 rfl) (wd hw 4 rfl) (wd hw 5 rfl) pd_y_0 rfl (st := [.int (1 : Int32), .ref a1310]) rfl rfl (G := [(a1310, ar "[C" .char [.int c1311, .int 0, .int 0, .int 0, .int 0, .int 0])]) rfl rfl ?_
    rintro _ _ ⟨c1312, rfl, h0c1312, h1c1312, rfl⟩
    refine Goes.castore X 0 1 rfl (by decide) (by decide) (Nat.le_of_ble_eq_true rfl) ?_
    rw [own_nca h0c1312 h1c1312]
    refine Goes.runS X [(.aload 5, 2), (.iconst 2, 1), (.iload_n 1, 1), (.lload_n 2, 1), (.iconst 2, 1)] (S' := [.int (2 : Int32), .long raw, .int sel, .int (2 : Int32), .ref a1310]) (pc' := 41) rfl ?_
    refine Goes.callS X 2 [] [0] (D_pick l Z a0 h0 hw sel raw 2) (wd hw 2 rfl) (wd hw 3 rfl) (wd hw 4 rfl) (wd hw 5 rfl) pd_y_0 rfl (st := [.int (2 : Int32), .ref a1310]) rfl rfl (G := [(a1310, ar "[C" .char [.int c1311, .int c1312, .int 0, .int 0, .int 0, .int 0])]) rfl rfl ?_
    rintro _ _ ⟨c1313, rfl, h0c1313, h1c1313, rfl⟩
    refine Goes.castore X 0 2 rfl (by decide) (by decide) (Nat.le_of_ble_eq_true rfl) ?_
    rw [own_nca h0c1313 h1c1313]
    refine Goes.runS X [(.aload 5, 2), (.iconst 3, 1), (.iload_n 1, 1), (.lload_n 2, 1), (.iconst 3, 1)] (S' := [.int (3 : Int32), .long raw, .int sel, .int (3 : Int32), .ref a1310]) (pc' := 51) rfl ?_
    refine Goes.callS X 2 [] [0] (D_pick l Z a0 h0 hw sel raw 3) (wd hw 2 rfl) (wd hw 3 rfl) (wd hw 4 rfl) (wd hw 5 rfl) pd_y_0 rfl (st := [.int (3 : Int32), .ref a1310]) rfl rfl (G := [(a1310, ar "[C" .char [.int c1311, .int c1312, .int c1313, .int 0, .int 0, .int 0])]) rfl rfl ?_
    rintro _ _ ⟨c1314, rfl, h0c1314, h1c1314, rfl⟩
    refine Goes.castore X 0 3 rfl (by decide) (by decide) (Nat.le_of_ble_eq_true rfl) ?_
    rw [own_nca h0c1314 h1c1314]
    refine Goes.runS X [(.aload 5, 2), (.iconst 4, 1), (.iload_n 1, 1), (.lload_n 2, 1), (.iconst 4, 1)] (S' := [.int (4 : Int32), .long raw, .int sel, .int (4 : Int32), .ref a1310]) (pc' := 61) rfl ?_
    refine Goes.callS X 2 [] [0] (D_pick l Z a0 h0 hw sel raw 4) (wd hw 2 rfl) (wd hw 3 rfl) (wd hw 4 rfl) (wd hw 5 rfl) pd_y_0 rfl (st := [.int (4 : Int32), .ref a1310]) rfl rfl (G := [(a1310, ar "[C" .char [.int c1311, .int c1312, .int c1313, .int c1314, .int 0, .int 0])]) rfl rfl ?_
    rintro _ _ ⟨c1315, rfl, h0c1315, h1c1315, rfl⟩
    refine Goes.castore X 0 4 rfl (by decide) (by decide) (Nat.le_of_ble_eq_true rfl) ?_
    rw [own_nca h0c1315 h1c1315]
    refine Goes.runS X [(.aload 5, 2), (.iconst 5, 1), (.iload_n 1, 1), (.lload_n 2, 1), (.iconst 5, 1)] (S' := [.int (5 : Int32), .long raw, .int sel, .int (5 : Int32), .ref a1310]) (pc' := 71) rfl ?_
    refine Goes.callS X 2 [] [0] (D_pick l Z a0 h0 hw sel raw 5) (wd hw 2 rfl) (wd hw 3 rfl) (wd hw 4 rfl) (wd hw 5 rfl) pd_y_0 rfl (st := [.int (5 : Int32), .ref a1310]) rfl rfl (G := [(a1310, ar "[C" .char [.int c1311, .int c1312, .int c1313, .int c1314, .int c1315, .int 0])]) rfl rfl ?_
    rintro _ _ ⟨c1316, rfl, h0c1316, h1c1316, rfl⟩
    refine Goes.castore X 0 5 rfl (by decide) (by decide) (Nat.le_of_ble_eq_true rfl) ?_
    rw [own_nca h0c1316 h1c1316]
    refine Goes.new X _ (wd hw 7 rfl) (wd hw 8 rfl) (wd hw 9 rfl) (new_Dig hw) (fun a1317 => ?_)
    refine Goes.runS X [(.dup, 1), (.iconst 0, 1)] (S' := [.int (0 : Int32), .ref a1317, .ref a1317]) (pc' := 80) rfl ?_
    refine Goes.callN X 1 [1] [0] (D_dctor l Z a0 h0 hw cs hCS hcs a1317) rfl (wd hw 10 rfl) (wd hw 11 rfl) (wd hw 9 rfl) (wd hw 12 rfl) pd_y_1 rfl (st := [.ref a1317]) rfl rfl (G := [(a1310, ar "[C" .char [.int c1311, .int c1312, .int c1313, .int c1314, .int c1315, .int c1316])]) rfl rfl ?_
    rintro _ _ ⟨u1318, b1319, h1320, b1321, rfl, rfl⟩
    refine Goes.run X [(.astore 6, 2), (.iload 4, 2)] (L' := #[.val (.int n), .val (.int sel), .val (.long raw), .second, .val (.int (4 : Int32)), .val (.ref a1310), .val (.ref a1317)]) (S' := [.int (4 : Int32)]) (pc' := 87) rfl ?_
    refine Goes.if1 X (pc' := 100) (o := 13) (cd := .le) (fun q => absurd q (by decide)) (fun _ => ?_)
    refine Goes.runS X [(.aload 6, 2), (.aload 5, 2), (.iconst 0, 1)] (S' := [.int (0 : Int32), .ref a1310, .ref a1317]) (pc' := 95) rfl ?_
    refine Goes.caload X 4 0 rfl (by decide) (by decide) rfl ?_
    refine Goes.callV X 0 0 [0, 1, 2, 3] [4] rfl (D_add l Z a0 h0 hw cs hCS hcs a1317 u1318 h1320 b1319 (.ref b1321) 0 0 (Or.inl rfl : own_ok 0) 0 0 0 0 0 0 (by omega) (List.replicate 16 (.int 0)) (by decide) c1311 (own_le h1c1311)) (wd hw 56 rfl) (wd hw 57 rfl) (wd hw 59 rfl) (wd hw 58 rfl) (own_nf X (wd hw 59 rfl)) (wd hw 9 rfl) (wd hw 60 rfl) pd_y_6 rfl (st := []) rfl rfl (G := [(a1310, ar "[C" .char [.int c1311, .int c1312, .int c1313, .int c1314, .int c1315, .int c1316])]) rfl rfl ?_
    rintro _ _ ⟨r1322, sg1323, pl1324, ne1325, ed1326, ex1327, k1328, bs1329, rfl, hk1330, hbs1331, rfl⟩
    obtain ⟨s1332, hs1333⟩ : ∃ z, (own_st 0 c1311) = z := ⟨_, rfl⟩
    obtain ⟨e1334, he1335⟩ : ∃ z, (own_en 0 0 c1311) = z := ⟨_, rfl⟩
    rw [hs1333, he1335]
    refine Goes.runS X [(.pop, 1), (.iload 4, 2), (.iconst 1, 1)] (S' := [.int (1 : Int32), .int (4 : Int32)]) (pc' := 103) rfl ?_
    refine Goes.if2 X (pc' := 116) (o := 13) (cd := .le) (fun q => absurd q (by decide)) (fun _ => ?_)
    refine Goes.runS X [(.aload 6, 2), (.aload 5, 2), (.iconst 1, 1)] (S' := [.int (1 : Int32), .ref a1310, .ref a1317]) (pc' := 111) rfl ?_
    refine Goes.caload X 4 1 rfl (by decide) (by decide) rfl ?_
    refine Goes.callV X 0 0 [0, 1, 2, 3] [4] rfl (D_add l Z a0 h0 hw cs hCS hcs a1317 u1318 h1320 b1319 (.ref b1321) s1332 e1334 (hs1333 ▸ own_st_ok c1311 (Or.inl rfl : own_ok 0)) sg1323 pl1324 ne1325 ed1326 ex1327 k1328 (by omega) bs1329 hbs1331 c1312 (own_le h1c1312)) (wd hw 56 rfl) (wd hw 57 rfl) (wd hw 59 rfl) (wd hw 58 rfl) (own_nf X (wd hw 59 rfl)) (wd hw 9 rfl) (wd hw 60 rfl) pd_y_6 rfl (st := []) rfl rfl (G := [(a1310, ar "[C" .char [.int c1311, .int c1312, .int c1313, .int c1314, .int c1315, .int c1316])]) rfl rfl ?_
    rintro _ _ ⟨r1336, sg1337, pl1338, ne1339, ed1340, ex1341, k1342, bs1343, rfl, hk1344, hbs1345, rfl⟩
    obtain ⟨s1346, hs1347⟩ : ∃ z, (own_st s1332 c1312) = z := ⟨_, rfl⟩
    obtain ⟨e1348, he1349⟩ : ∃ z, (own_en e1334 s1332 c1312) = z := ⟨_, rfl⟩
    rw [hs1347, he1349]
    refine Goes.runS X [(.pop, 1), (.iload 4, 2), (.iconst 2, 1)] (S' := [.int (2 : Int32), .int (4 : Int32)]) (pc' := 119) rfl ?_
    refine Goes.if2 X (pc' := 132) (o := 13) (cd := .le) (fun q => absurd q (by decide)) (fun _ => ?_)
    refine Goes.runS X [(.aload 6, 2), (.aload 5, 2), (.iconst 2, 1)] (S' := [.int (2 : Int32), .ref a1310, .ref a1317]) (pc' := 127) rfl ?_
    refine Goes.caload X 4 2 rfl (by decide) (by decide) rfl ?_
    refine Goes.callV X 0 0 [0, 1, 2, 3] [4] rfl (D_add l Z a0 h0 hw cs hCS hcs a1317 u1318 h1320 b1319 (.ref b1321) s1346 e1348 (hs1347 ▸ own_st_ok c1312 (hs1333 ▸ own_st_ok c1311 (Or.inl rfl : own_ok 0))) sg1337 pl1338 ne1339 ed1340 ex1341 k1342 (by omega) bs1343 hbs1345 c1313 (own_le h1c1313)) (wd hw 56 rfl) (wd hw 57 rfl) (wd hw 59 rfl) (wd hw 58 rfl) (own_nf X (wd hw 59 rfl)) (wd hw 9 rfl) (wd hw 60 rfl) pd_y_6 rfl (st := []) rfl rfl (G := [(a1310, ar "[C" .char [.int c1311, .int c1312, .int c1313, .int c1314, .int c1315, .int c1316])]) rfl rfl ?_
    rintro _ _ ⟨r1350, sg1351, pl1352, ne1353, ed1354, ex1355, k1356, bs1357, rfl, hk1358, hbs1359, rfl⟩
    obtain ⟨s1360, hs1361⟩ : ∃ z, (own_st s1346 c1313) = z := ⟨_, rfl⟩
    obtain ⟨e1362, he1363⟩ : ∃ z, (own_en e1348 s1346 c1313) = z := ⟨_, rfl⟩
    rw [hs1361, he1363]
    refine Goes.runS X [(.pop, 1), (.iload 4, 2), (.iconst 3, 1)] (S' := [.int (3 : Int32), .int (4 : Int32)]) (pc' := 135) rfl ?_
    refine Goes.if2 X (pc' := 148) (o := 13) (cd := .le) (fun q => absurd q (by decide)) (fun _ => ?_)
    refine Goes.runS X [(.aload 6, 2), (.aload 5, 2), (.iconst 3, 1)] (S' := [.int (3 : Int32), .ref a1310, .ref a1317]) (pc' := 143) rfl ?_
    refine Goes.caload X 4 3 rfl (by decide) (by decide) rfl ?_
    refine Goes.callV X 0 0 [0, 1, 2, 3] [4] rfl (D_add l Z a0 h0 hw cs hCS hcs a1317 u1318 h1320 b1319 (.ref b1321) s1360 e1362 (hs1361 ▸ own_st_ok c1313 (hs1347 ▸ own_st_ok c1312 (hs1333 ▸ own_st_ok c1311 (Or.inl rfl : own_ok 0)))) sg1351 pl1352 ne1353 ed1354 ex1355 k1356 (by omega) bs1357 hbs1359 c1314 (own_le h1c1314)) (wd hw 56 rfl) (wd hw 57 rfl) (wd hw 59 rfl) (wd hw 58 rfl) (own_nf X (wd hw 59 rfl)) (wd hw 9 rfl) (wd hw 60 rfl) pd_y_6 rfl (st := []) rfl rfl (G := [(a1310, ar "[C" .char [.int c1311, .int c1312, .int c1313, .int c1314, .int c1315, .int c1316])]) rfl rfl ?_
    rintro _ _ ⟨r1364, sg1365, pl1366, ne1367, ed1368, ex1369, k1370, bs1371, rfl, hk1372, hbs1373, rfl⟩
    obtain ⟨s1374, hs1375⟩ : ∃ z, (own_st s1360 c1314) = z := ⟨_, rfl⟩
    obtain ⟨e1376, he1377⟩ : ∃ z, (own_en e1362 s1360 c1314) = z := ⟨_, rfl⟩
    rw [hs1375, he1377]
    refine Goes.runS X [(.pop, 1), (.iload 4, 2), (.iconst 4, 1)] (S' := [.int (4 : Int32), .int (4 : Int32)]) (pc' := 151) rfl ?_
    refine Goes.if2 X (pc' := 164) (o := 13) (cd := .le) (fun _ => ?_) (fun q => absurd q (by decide))
    refine Goes.runS X [(.iload 4, 2), (.iconst 5, 1)] (S' := [.int (5 : Int32), .int (4 : Int32)]) (pc' := 167) rfl ?_
    refine Goes.if2 X (pc' := 180) (o := 13) (cd := .le) (fun _ => ?_) (fun q => absurd q (by decide))
    refine Goes.runS X [(.aload 6, 2)] (S' := [.ref a1317]) (pc' := 182) rfl ?_
    refine Goes.callV X 0 0 [0] [1, 2, 3, 4] rfl (D_dec l Z a0 h0 hw a1317 s1374 e1376 (.long sg1365) (.long pl1366) (.int ne1367) (.int ed1368) (.long ex1369) (.ref u1318) (.ref h1320) (.int 0) (.int 0)) (wd hw 46 rfl) (wd hw 47 rfl) (wd hw 49 rfl) (wd hw 48 rfl) (own_nf X (wd hw 49 rfl)) (wd hw 9 rfl) (wd hw 50 rfl) pd_y_4 rfl (st := []) rfl rfl (G := [(u1318, o_SB (.ref b1319) (.int 0) (.int (Int32.ofNat k1370))), (b1319, oBs bs1371), (h1320, o_SB (.ref b1321) (.int 0) (.int 0)), (a1310, ar "[C" .char [.int c1311, .int c1312, .int c1313, .int c1314, .int c1315, .int c1316])]) rfl rfl ?_
    rintro _ _ ⟨rfl, rfl⟩
    refine Goes.runS X [(.aload 5, 2), (.iload 4, 2)] (S' := [.int (4 : Int32), .ref a1310, .int (own_dec s1374 e1376)]) (pc' := 189) rfl ?_
    refine Goes.callS X 1 [4] [0, 1, 2, 3] (D_ref4 l Z a0 h0 hw a1310 c1311 c1312 c1313 c1314 c1315 c1316) (wd hw 53 rfl) (wd hw 54 rfl) (wd hw 4 rfl) (wd hw 55 rfl) pd_y_5 rfl (st := [.int (own_dec s1374 e1376)]) rfl rfl (G := [(a1317, o_Dig (.int s1374) (.int e1376) (.long sg1365) (.long pl1366) (.int ne1367) (.int ed1368) (.long ex1369) (.ref u1318) (.ref h1320) (.int 0) (.int 0)), (u1318, o_SB (.ref b1319) (.int 0) (.int (Int32.ofNat k1370))), (b1319, oBs bs1371), (h1320, o_SB (.ref b1321) (.int 0) (.int 0))]) rfl rfl ?_
    rintro _ _ ⟨rfl, rfl⟩
    subst he1377
    subst hs1375
    subst he1363
    subst hs1361
    subst he1349
    subst hs1347
    subst he1335
    subst hs1333
    rw [own_law4 c1311 c1312 c1313 c1314 0]
    refine Goes.if2 X (pc' := 199) (o := 7) (cd := .ne) (fun q => absurd (q.symm.trans (by simp [if_icmp.holds] : if_icmp.holds .ne (Int32.ofNat (own_refN 4 [(own_cl c1311), (own_cl c1312), (own_cl c1313), (own_cl c1314)])) (Int32.ofNat (own_refN 4 [(own_cl c1311), (own_cl c1312), (own_cl c1313), (own_cl c1314)])) = false)) (by decide)) (fun _ => ?_)
    refine Goes.runS X [(.iconst 1, 1)] (S' := [.int (1 : Int32)]) (pc' := 196) rfl ?_
    refine Goes.goto X (o := 4) (pc' := 200) ?_
    refine Goes.retI X (by simp) rfl ?_
    exact rfl
  · refine Goes.runS X [(.iload_n 0, 1)] (S' := [.int n]) (pc' := 1) rfl ?_
    refine Goes.ldcI X (wd hw 0 rfl) ?_
    refine Goes.run X [(.iand, 1), (.bipush 7, 2), (.irem, 1), (.istore 4, 2)] (L' := #[.val (.int n), .val (.int sel), .val (.long raw), .second, .val (.int ((n &&& (2147483647 : Int32)) % (7 : Int32))), .unset, .unset]) (S' := []) (pc' := 9) rfl ?_
    rw [e5]
    show Goes _ _ _ _ _ _ _ _ _ _ _ _ _ _ _ _ _ _ [] 0 0 (mkF m 9 #[.val (.int n), .val (.int sel), .val (.long raw), .second, .val (.int (5 : Int32)), .unset, .unset] [])
    refine Goes.runS X [(.bipush 6, 2)] (S' := [.int (6 : Int32)]) (pc' := 11) rfl ?_
    refine Goes.newarr X (aty := .char) "[C" 6 6 (wd hw 1 rfl) (by decide +kernel) (by decide) (by decide) (fun a1378 => ?_)
    refine Goes.run X [(.astore 5, 2), (.aload 5, 2), (.iconst 0, 1), (.iload_n 1, 1), (.lload_n 2, 1), (.iconst 0, 1)] (L' := #[.val (.int n), .val (.int sel), .val (.long raw), .second, .val (.int (5 : Int32)), .val (.ref a1378), .unset]) (S' := [.int (0 : Int32), .long raw, .int sel, .int (0 : Int32), .ref a1378]) (pc' := 21) rfl ?_
    refine Goes.callS X 2 [] [0] (D_pick l Z a0 h0 hw sel raw 0) (wd hw 2 rfl) (wd hw 3 rfl) (wd hw 4 rfl) (wd hw 5 rfl) pd_y_0 rfl (st := [.int (0 : Int32), .ref a1378]) rfl rfl (G := [(a1378, ar "[C" .char [.int 0, .int 0, .int 0, .int 0, .int 0, .int 0])]) rfl rfl ?_
    rintro _ _ ⟨c1379, rfl, h0c1379, h1c1379, rfl⟩
    refine Goes.castore X 0 0 rfl (by decide) (by decide) (Nat.le_of_ble_eq_true rfl) ?_
    rw [own_nca h0c1379 h1c1379]
    refine Goes.runS X [(.aload 5, 2), (.iconst 1, 1), (.iload_n 1, 1), (.lload_n 2, 1), (.iconst 1, 1)] (S' := [.int (1 : Int32), .long raw, .int sel, .int (1 : Int32), .ref a1378]) (pc' := 31) rfl ?_
    refine Goes.callS X 2 [] [0] (D_pick l Z a0 h0 hw sel raw 1) (wd hw 2 rfl) (wd hw 3 rfl) (wd hw 4 rfl) (wd hw 5 rfl) pd_y_0 rfl (st := [.int (1 : Int32), .ref a1378]) rfl rfl (G := [(a1378, ar "[C" .char [.int c1379, .int 0, .int 0, .int 0, .int 0, .int 0])]) rfl rfl ?_
    rintro _ _ ⟨c1380, rfl, h0c1380, h1c1380, rfl⟩
    refine Goes.castore X 0 1 rfl (by decide) (by decide) (Nat.le_of_ble_eq_true rfl) ?_
    rw [own_nca h0c1380 h1c1380]
    refine Goes.runS X [(.aload 5, 2), (.iconst 2, 1), (.iload_n 1, 1), (.lload_n 2, 1), (.iconst 2, 1)] (S' := [.int (2 : Int32), .long raw, .int sel, .int (2 : Int32), .ref a1378]) (pc' := 41) rfl ?_
    refine Goes.callS X 2 [] [0] (D_pick l Z a0 h0 hw sel raw 2) (wd hw 2 rfl) (wd hw 3 rfl) (wd hw 4 rfl) (wd hw 5 rfl) pd_y_0 rfl (st := [.int (2 : Int32), .ref a1378]) rfl rfl (G := [(a1378, ar "[C" .char [.int c1379, .int c1380, .int 0, .int 0, .int 0, .int 0])]) rfl rfl ?_
    rintro _ _ ⟨c1381, rfl, h0c1381, h1c1381, rfl⟩
    refine Goes.castore X 0 2 rfl (by decide) (by decide) (Nat.le_of_ble_eq_true rfl) ?_
    rw [own_nca h0c1381 h1c1381]
    refine Goes.runS X [(.aload 5, 2), (.iconst 3, 1), (.iload_n 1, 1), (.lload_n 2, 1), (.iconst 3, 1)] (S' := [.int (3 : Int32), .long raw, .int sel, .int (3 : Int32), .ref a1378]) (pc' := 51) rfl ?_
    refine Goes.callS X 2 [] [0] (D_pick l Z a0 h0 hw sel raw 3) (wd hw 2 rfl) (wd hw 3 rfl) (wd hw 4 rfl) (wd hw 5 rfl) pd_y_0 rfl (st := [.int (3 : Int32), .ref a1378]) rfl rfl (G := [(a1378, ar "[C" .char [.int c1379, .int c1380, .int c1381, .int 0, .int 0, .int 0])]) rfl rfl ?_
    rintro _ _ ⟨c1382, rfl, h0c1382, h1c1382, rfl⟩
    refine Goes.castore X 0 3 rfl (by decide) (by decide) (Nat.le_of_ble_eq_true rfl) ?_
    rw [own_nca h0c1382 h1c1382]
    refine Goes.runS X [(.aload 5, 2), (.iconst 4, 1), (.iload_n 1, 1), (.lload_n 2, 1), (.iconst 4, 1)] (S' := [.int (4 : Int32), .long raw, .int sel, .int (4 : Int32), .ref a1378]) (pc' := 61) rfl ?_
    refine Goes.callS X 2 [] [0] (D_pick l Z a0 h0 hw sel raw 4) (wd hw 2 rfl) (wd hw 3 rfl) (wd hw 4 rfl) (wd hw 5 rfl) pd_y_0 rfl (st := [.int (4 : Int32), .ref a1378]) rfl rfl (G := [(a1378, ar "[C" .char [.int c1379, .int c1380, .int c1381, .int c1382, .int 0, .int 0])]) rfl rfl ?_
    rintro _ _ ⟨c1383, rfl, h0c1383, h1c1383, rfl⟩
    refine Goes.castore X 0 4 rfl (by decide) (by decide) (Nat.le_of_ble_eq_true rfl) ?_
    rw [own_nca h0c1383 h1c1383]
    refine Goes.runS X [(.aload 5, 2), (.iconst 5, 1), (.iload_n 1, 1), (.lload_n 2, 1), (.iconst 5, 1)] (S' := [.int (5 : Int32), .long raw, .int sel, .int (5 : Int32), .ref a1378]) (pc' := 71) rfl ?_
    refine Goes.callS X 2 [] [0] (D_pick l Z a0 h0 hw sel raw 5) (wd hw 2 rfl) (wd hw 3 rfl) (wd hw 4 rfl) (wd hw 5 rfl) pd_y_0 rfl (st := [.int (5 : Int32), .ref a1378]) rfl rfl (G := [(a1378, ar "[C" .char [.int c1379, .int c1380, .int c1381, .int c1382, .int c1383, .int 0])]) rfl rfl ?_
    rintro _ _ ⟨c1384, rfl, h0c1384, h1c1384, rfl⟩
    refine Goes.castore X 0 5 rfl (by decide) (by decide) (Nat.le_of_ble_eq_true rfl) ?_
    rw [own_nca h0c1384 h1c1384]
    refine Goes.new X _ (wd hw 7 rfl) (wd hw 8 rfl) (wd hw 9 rfl) (new_Dig hw) (fun a1385 => ?_)
    refine Goes.runS X [(.dup, 1), (.iconst 0, 1)] (S' := [.int (0 : Int32), .ref a1385, .ref a1385]) (pc' := 80) rfl ?_
    refine Goes.callN X 1 [1] [0] (D_dctor l Z a0 h0 hw cs hCS hcs a1385) rfl (wd hw 10 rfl) (wd hw 11 rfl) (wd hw 9 rfl) (wd hw 12 rfl) pd_y_1 rfl (st := [.ref a1385]) rfl rfl (G := [(a1378, ar "[C" .char [.int c1379, .int c1380, .int c1381, .int c1382, .int c1383, .int c1384])]) rfl rfl ?_
    rintro _ _ ⟨u1386, b1387, h1388, b1389, rfl, rfl⟩
    refine Goes.run X [(.astore 6, 2), (.iload 4, 2)] (L' := #[.val (.int n), .val (.int sel), .val (.long raw), .second, .val (.int (5 : Int32)), .val (.ref a1378), .val (.ref a1385)]) (S' := [.int (5 : Int32)]) (pc' := 87) rfl ?_
    refine Goes.if1 X (pc' := 100) (o := 13) (cd := .le) (fun q => absurd q (by decide)) (fun _ => ?_)
    refine Goes.runS X [(.aload 6, 2), (.aload 5, 2), (.iconst 0, 1)] (S' := [.int (0 : Int32), .ref a1378, .ref a1385]) (pc' := 95) rfl ?_
    refine Goes.caload X 4 0 rfl (by decide) (by decide) rfl ?_
    refine Goes.callV X 0 0 [0, 1, 2, 3] [4] rfl (D_add l Z a0 h0 hw cs hCS hcs a1385 u1386 h1388 b1387 (.ref b1389) 0 0 (Or.inl rfl : own_ok 0) 0 0 0 0 0 0 (by omega) (List.replicate 16 (.int 0)) (by decide) c1379 (own_le h1c1379)) (wd hw 56 rfl) (wd hw 57 rfl) (wd hw 59 rfl) (wd hw 58 rfl) (own_nf X (wd hw 59 rfl)) (wd hw 9 rfl) (wd hw 60 rfl) pd_y_6 rfl (st := []) rfl rfl (G := [(a1378, ar "[C" .char [.int c1379, .int c1380, .int c1381, .int c1382, .int c1383, .int c1384])]) rfl rfl ?_
    rintro _ _ ⟨r1390, sg1391, pl1392, ne1393, ed1394, ex1395, k1396, bs1397, rfl, hk1398, hbs1399, rfl⟩
    obtain ⟨s1400, hs1401⟩ : ∃ z, (own_st 0 c1379) = z := ⟨_, rfl⟩
    obtain ⟨e1402, he1403⟩ : ∃ z, (own_en 0 0 c1379) = z := ⟨_, rfl⟩
    rw [hs1401, he1403]
    refine Goes.runS X [(.pop, 1), (.iload 4, 2), (.iconst 1, 1)] (S' := [.int (1 : Int32), .int (5 : Int32)]) (pc' := 103) rfl ?_
    refine Goes.if2 X (pc' := 116) (o := 13) (cd := .le) (fun q => absurd q (by decide)) (fun _ => ?_)
    refine Goes.runS X [(.aload 6, 2), (.aload 5, 2), (.iconst 1, 1)] (S' := [.int (1 : Int32), .ref a1378, .ref a1385]) (pc' := 111) rfl ?_
    refine Goes.caload X 4 1 rfl (by decide) (by decide) rfl ?_
    refine Goes.callV X 0 0 [0, 1, 2, 3] [4] rfl (D_add l Z a0 h0 hw cs hCS hcs a1385 u1386 h1388 b1387 (.ref b1389) s1400 e1402 (hs1401 ▸ own_st_ok c1379 (Or.inl rfl : own_ok 0)) sg1391 pl1392 ne1393 ed1394 ex1395 k1396 (by omega) bs1397 hbs1399 c1380 (own_le h1c1380)) (wd hw 56 rfl) (wd hw 57 rfl) (wd hw 59 rfl) (wd hw 58 rfl) (own_nf X (wd hw 59 rfl)) (wd hw 9 rfl) (wd hw 60 rfl) pd_y_6 rfl (st := []) rfl rfl (G := [(a1378, ar "[C" .char [.int c1379, .int c1380, .int c1381, .int c1382, .int c1383, .int c1384])]) rfl rfl ?_
    rintro _ _ ⟨r1404, sg1405, pl1406, ne1407, ed1408, ex1409, k1410, bs1411, rfl, hk1412, hbs1413, rfl⟩
    obtain ⟨s1414, hs1415⟩ : ∃ z, (own_st s1400 c1380) = z := ⟨_, rfl⟩
    obtain ⟨e1416, he1417⟩ : ∃ z, (own_en e1402 s1400 c1380) = z := ⟨_, rfl⟩
    rw [hs1415, he1417]
    refine Goes.runS X [(.pop, 1), (.iload 4, 2), (.iconst 2, 1)] (S' := [.int (2 : Int32), .int (5 : Int32)]) (pc' := 119) rfl ?_
    refine Goes.if2 X (pc' := 132) (o := 13) (cd := .le) (fun q => absurd q (by decide)) (fun _ => ?_)
    refine Goes.runS X [(.aload 6, 2), (.aload 5, 2), (.iconst 2, 1)] (S' := [.int (2 : Int32), .ref a1378, .ref a1385]) (pc' := 127) rfl ?_
    refine Goes.caload X 4 2 rfl (by decide) (by decide) rfl ?_
    refine Goes.callV X 0 0 [0, 1, 2, 3] [4] rfl (D_add l Z a0 h0 hw cs hCS hcs a1385 u1386 h1388 b1387 (.ref b1389) s1414 e1416 (hs1415 ▸ own_st_ok c1380 (hs1401 ▸ own_st_ok c1379 (Or.inl rfl : own_ok 0))) sg1405 pl1406 ne1407 ed1408 ex1409 k1410 (by omega) bs1411 hbs1413 c1381 (own_le h1c1381)) (wd hw 56 rfl) (wd hw 57 rfl) (wd hw 59 rfl) (wd hw 58 rfl) (own_nf X (wd hw 59 rfl)) (wd hw 9 rfl) (wd hw 60 rfl) pd_y_6 rfl (st := []) rfl rfl (G := [(a1378, ar "[C" .char [.int c1379, .int c1380, .int c1381, .int c1382, .int c1383, .int c1384])]) rfl rfl ?_
    rintro _ _ ⟨r1418, sg1419, pl1420, ne1421, ed1422, ex1423, k1424, bs1425, rfl, hk1426, hbs1427, rfl⟩
    obtain ⟨s1428, hs1429⟩ : ∃ z, (own_st s1414 c1381) = z := ⟨_, rfl⟩
    obtain ⟨e1430, he1431⟩ : ∃ z, (own_en e1416 s1414 c1381) = z := ⟨_, rfl⟩
    rw [hs1429, he1431]
    refine Goes.runS X [(.pop, 1), (.iload 4, 2), (.iconst 3, 1)] (S' := [.int (3 : Int32), .int (5 : Int32)]) (pc' := 135) rfl ?_
    refine Goes.if2 X (pc' := 148) (o := 13) (cd := .le) (fun q => absurd q (by decide)) (fun _ => ?_)
    refine Goes.runS X [(.aload 6, 2), (.aload 5, 2), (.iconst 3, 1)] (S' := [.int (3 : Int32), .ref a1378, .ref a1385]) (pc' := 143) rfl ?_
    refine Goes.caload X 4 3 rfl (by decide) (by decide) rfl ?_
    refine Goes.callV X 0 0 [0, 1, 2, 3] [4] rfl (D_add l Z a0 h0 hw cs hCS hcs a1385 u1386 h1388 b1387 (.ref b1389) s1428 e1430 (hs1429 ▸ own_st_ok c1381 (hs1415 ▸ own_st_ok c1380 (hs1401 ▸ own_st_ok c1379 (Or.inl rfl : own_ok 0)))) sg1419 pl1420 ne1421 ed1422 ex1423 k1424 (by omega) bs1425 hbs1427 c1382 (own_le h1c1382)) (wd hw 56 rfl) (wd hw 57 rfl) (wd hw 59 rfl) (wd hw 58 rfl) (own_nf X (wd hw 59 rfl)) (wd hw 9 rfl) (wd hw 60 rfl) pd_y_6 rfl (st := []) rfl rfl (G := [(a1378, ar "[C" .char [.int c1379, .int c1380, .int c1381, .int c1382, .int c1383, .int c1384])]) rfl rfl ?_
    rintro _ _ ⟨r1432, sg1433, pl1434, ne1435, ed1436, ex1437, k1438, bs1439, rfl, hk1440, hbs1441, rfl⟩
    obtain ⟨s1442, hs1443⟩ : ∃ z, (own_st s1428 c1382) = z := ⟨_, rfl⟩
    obtain ⟨e1444, he1445⟩ : ∃ z, (own_en e1430 s1428 c1382) = z := ⟨_, rfl⟩
    rw [hs1443, he1445]
    refine Goes.runS X [(.pop, 1), (.iload 4, 2), (.iconst 4, 1)] (S' := [.int (4 : Int32), .int (5 : Int32)]) (pc' := 151) rfl ?_
    refine Goes.if2 X (pc' := 164) (o := 13) (cd := .le) (fun q => absurd q (by decide)) (fun _ => ?_)
    refine Goes.runS X [(.aload 6, 2), (.aload 5, 2), (.iconst 4, 1)] (S' := [.int (4 : Int32), .ref a1378, .ref a1385]) (pc' := 159) rfl ?_
    refine Goes.caload X 4 4 rfl (by decide) (by decide) rfl ?_
    refine Goes.callV X 0 0 [0, 1, 2, 3] [4] rfl (D_add l Z a0 h0 hw cs hCS hcs a1385 u1386 h1388 b1387 (.ref b1389) s1442 e1444 (hs1443 ▸ own_st_ok c1382 (hs1429 ▸ own_st_ok c1381 (hs1415 ▸ own_st_ok c1380 (hs1401 ▸ own_st_ok c1379 (Or.inl rfl : own_ok 0))))) sg1433 pl1434 ne1435 ed1436 ex1437 k1438 (by omega) bs1439 hbs1441 c1383 (own_le h1c1383)) (wd hw 56 rfl) (wd hw 57 rfl) (wd hw 59 rfl) (wd hw 58 rfl) (own_nf X (wd hw 59 rfl)) (wd hw 9 rfl) (wd hw 60 rfl) pd_y_6 rfl (st := []) rfl rfl (G := [(a1378, ar "[C" .char [.int c1379, .int c1380, .int c1381, .int c1382, .int c1383, .int c1384])]) rfl rfl ?_
    rintro _ _ ⟨r1446, sg1447, pl1448, ne1449, ed1450, ex1451, k1452, bs1453, rfl, hk1454, hbs1455, rfl⟩
    obtain ⟨s1456, hs1457⟩ : ∃ z, (own_st s1442 c1383) = z := ⟨_, rfl⟩
    obtain ⟨e1458, he1459⟩ : ∃ z, (own_en e1444 s1442 c1383) = z := ⟨_, rfl⟩
    rw [hs1457, he1459]
    refine Goes.runS X [(.pop, 1), (.iload 4, 2), (.iconst 5, 1)] (S' := [.int (5 : Int32), .int (5 : Int32)]) (pc' := 167) rfl ?_
    refine Goes.if2 X (pc' := 180) (o := 13) (cd := .le) (fun _ => ?_) (fun q => absurd q (by decide))
    refine Goes.runS X [(.aload 6, 2)] (S' := [.ref a1385]) (pc' := 182) rfl ?_
    refine Goes.callV X 0 0 [0] [1, 2, 3, 4] rfl (D_dec l Z a0 h0 hw a1385 s1456 e1458 (.long sg1447) (.long pl1448) (.int ne1449) (.int ed1450) (.long ex1451) (.ref u1386) (.ref h1388) (.int 0) (.int 0)) (wd hw 46 rfl) (wd hw 47 rfl) (wd hw 49 rfl) (wd hw 48 rfl) (own_nf X (wd hw 49 rfl)) (wd hw 9 rfl) (wd hw 50 rfl) pd_y_4 rfl (st := []) rfl rfl (G := [(u1386, o_SB (.ref b1387) (.int 0) (.int (Int32.ofNat k1452))), (b1387, oBs bs1453), (h1388, o_SB (.ref b1389) (.int 0) (.int 0)), (a1378, ar "[C" .char [.int c1379, .int c1380, .int c1381, .int c1382, .int c1383, .int c1384])]) rfl rfl ?_
    rintro _ _ ⟨rfl, rfl⟩
    refine Goes.runS X [(.aload 5, 2), (.iload 4, 2)] (S' := [.int (5 : Int32), .ref a1378, .int (own_dec s1456 e1458)]) (pc' := 189) rfl ?_
    refine Goes.callS X 1 [4] [0, 1, 2, 3] (D_ref5 l Z a0 h0 hw a1378 c1379 c1380 c1381 c1382 c1383 c1384) (wd hw 53 rfl) (wd hw 54 rfl) (wd hw 4 rfl) (wd hw 55 rfl) pd_y_5 rfl (st := [.int (own_dec s1456 e1458)]) rfl rfl (G := [(a1385, o_Dig (.int s1456) (.int e1458) (.long sg1447) (.long pl1448) (.int ne1449) (.int ed1450) (.long ex1451) (.ref u1386) (.ref h1388) (.int 0) (.int 0)), (u1386, o_SB (.ref b1387) (.int 0) (.int (Int32.ofNat k1452))), (b1387, oBs bs1453), (h1388, o_SB (.ref b1389) (.int 0) (.int 0))]) rfl rfl ?_
    rintro _ _ ⟨rfl, rfl⟩
    subst he1459
    subst hs1457
    subst he1445
    subst hs1443
    subst he1431
    subst hs1429
    subst he1417
    subst hs1415
    subst he1403
    subst hs1401
    rw [own_law5 c1379 c1380 c1381 c1382 c1383 0]
    refine Goes.if2 X (pc' := 199) (o := 7) (cd := .ne) (fun q => absurd (q.symm.trans (by simp [if_icmp.holds] : if_icmp.holds .ne (Int32.ofNat (own_refN 5 [(own_cl c1379), (own_cl c1380), (own_cl c1381), (own_cl c1382), (own_cl c1383)])) (Int32.ofNat (own_refN 5 [(own_cl c1379), (own_cl c1380), (own_cl c1381), (own_cl c1382), (own_cl c1383)])) = false)) (by decide)) (fun _ => ?_)
    refine Goes.runS X [(.iconst 1, 1)] (S' := [.int (1 : Int32)]) (pc' := 196) rfl ?_
    refine Goes.goto X (o := 4) (pc' := 200) ?_
    refine Goes.retI X (by simp) rfl ?_
    exact rfl
  · refine Goes.runS X [(.iload_n 0, 1)] (S' := [.int n]) (pc' := 1) rfl ?_
    refine Goes.ldcI X (wd hw 0 rfl) ?_
    refine Goes.run X [(.iand, 1), (.bipush 7, 2), (.irem, 1), (.istore 4, 2)] (L' := #[.val (.int n), .val (.int sel), .val (.long raw), .second, .val (.int ((n &&& (2147483647 : Int32)) % (7 : Int32))), .unset, .unset]) (S' := []) (pc' := 9) rfl ?_
    rw [e6]
    show Goes _ _ _ _ _ _ _ _ _ _ _ _ _ _ _ _ _ _ [] 0 0 (mkF m 9 #[.val (.int n), .val (.int sel), .val (.long raw), .second, .val (.int (6 : Int32)), .unset, .unset] [])
    refine Goes.runS X [(.bipush 6, 2)] (S' := [.int (6 : Int32)]) (pc' := 11) rfl ?_
    refine Goes.newarr X (aty := .char) "[C" 6 6 (wd hw 1 rfl) (by decide +kernel) (by decide) (by decide) (fun a1460 => ?_)
    refine Goes.run X [(.astore 5, 2), (.aload 5, 2), (.iconst 0, 1), (.iload_n 1, 1), (.lload_n 2, 1), (.iconst 0, 1)] (L' := #[.val (.int n), .val (.int sel), .val (.long raw), .second, .val (.int (6 : Int32)), .val (.ref a1460), .unset]) (S' := [.int (0 : Int32), .long raw, .int sel, .int (0 : Int32), .ref a1460]) (pc' := 21) rfl ?_
    refine Goes.callS X 2 [] [0] (D_pick l Z a0 h0 hw sel raw 0) (wd hw 2 rfl) (wd hw 3 rfl) (wd hw 4 rfl) (wd hw 5 rfl) pd_y_0 rfl (st := [.int (0 : Int32), .ref a1460]) rfl rfl (G := [(a1460, ar "[C" .char [.int 0, .int 0, .int 0, .int 0, .int 0, .int 0])]) rfl rfl ?_
    rintro _ _ ⟨c1461, rfl, h0c1461, h1c1461, rfl⟩
    refine Goes.castore X 0 0 rfl (by decide) (by decide) (Nat.le_of_ble_eq_true rfl) ?_
    rw [own_nca h0c1461 h1c1461]
    refine Goes.runS X [(.aload 5, 2), (.iconst 1, 1), (.iload_n 1, 1), (.lload_n 2, 1), (.iconst 1, 1)] (S' := [.int (1 : Int32), .long raw, .int sel, .int (1 : Int32), .ref a1460]) (pc' := 31) rfl ?_
    refine Goes.callS X 2 [] [0] (D_pick l Z a0 h0 hw sel raw 1) (wd hw 2 rfl) (wd hw 3 rfl) (wd hw 4 rfl) (wd hw 5 rfl) pd_y_0 rfl (st := [.int (1 : Int32), .ref a1460]) rfl rfl (G := [(a1460, ar "[C" .char [.int c1461, .int 0, .int 0, .int 0, .int 0, .int 0])]) rfl rfl ?_
    rintro _ _ ⟨c1462, rfl, h0c1462, h1c1462, rfl⟩
    refine Goes.castore X 0 1 rfl (by decide) (by decide) (Nat.le_of_ble_eq_true rfl) ?_
    rw [own_nca h0c1462 h1c1462]
    refine Goes.runS X [(.aload 5, 2), (.iconst 2, 1), (.iload_n 1, 1), (.lload_n 2, 1), (.iconst 2, 1)] (S' := [.int (2 : Int32), .long raw, .int sel, .int (2 : Int32), .ref a1460]) (pc' := 41) rfl ?_
    refine Goes.callS X 2 [] [0] (D_pick l Z a0 h0 hw sel raw 2) (wd hw 2 rfl) (wd hw 3 rfl) (wd hw 4 rfl) (wd hw 5 rfl) pd_y_0 rfl (st := [.int (2 : Int32), .ref a1460]) rfl rfl (G := [(a1460, ar "[C" .char [.int c1461, .int c1462, .int 0, .int 0, .int 0, .int 0])]) rfl rfl ?_
    rintro _ _ ⟨c1463, rfl, h0c1463, h1c1463, rfl⟩
    refine Goes.castore X 0 2 rfl (by decide) (by decide) (Nat.le_of_ble_eq_true rfl) ?_
    rw [own_nca h0c1463 h1c1463]
    refine Goes.runS X [(.aload 5, 2), (.iconst 3, 1), (.iload_n 1, 1), (.lload_n 2, 1), (.iconst 3, 1)] (S' := [.int (3 : Int32), .long raw, .int sel, .int (3 : Int32), .ref a1460]) (pc' := 51) rfl ?_
    refine Goes.callS X 2 [] [0] (D_pick l Z a0 h0 hw sel raw 3) (wd hw 2 rfl) (wd hw 3 rfl) (wd hw 4 rfl) (wd hw 5 rfl) pd_y_0 rfl (st := [.int (3 : Int32), .ref a1460]) rfl rfl (G := [(a1460, ar "[C" .char [.int c1461, .int c1462, .int c1463, .int 0, .int 0, .int 0])]) rfl rfl ?_
    rintro _ _ ⟨c1464, rfl, h0c1464, h1c1464, rfl⟩
    refine Goes.castore X 0 3 rfl (by decide) (by decide) (Nat.le_of_ble_eq_true rfl) ?_
    rw [own_nca h0c1464 h1c1464]
    refine Goes.runS X [(.aload 5, 2), (.iconst 4, 1), (.iload_n 1, 1), (.lload_n 2, 1), (.iconst 4, 1)] (S' := [.int (4 : Int32), .long raw, .int sel, .int (4 : Int32), .ref a1460]) (pc' := 61) rfl ?_
    refine Goes.callS X 2 [] [0] (D_pick l Z a0 h0 hw sel raw 4) (wd hw 2 rfl) (wd hw 3 rfl) (wd hw 4 rfl) (wd hw 5 rfl) pd_y_0 rfl (st := [.int (4 : Int32), .ref a1460]) rfl rfl (G := [(a1460, ar "[C" .char [.int c1461, .int c1462, .int c1463, .int c1464, .int 0, .int 0])]) rfl rfl ?_
    rintro _ _ ⟨c1465, rfl, h0c1465, h1c1465, rfl⟩
    refine Goes.castore X 0 4 rfl (by decide) (by decide) (Nat.le_of_ble_eq_true rfl) ?_
    rw [own_nca h0c1465 h1c1465]
    refine Goes.runS X [(.aload 5, 2), (.iconst 5, 1), (.iload_n 1, 1), (.lload_n 2, 1), (.iconst 5, 1)] (S' := [.int (5 : Int32), .long raw, .int sel, .int (5 : Int32), .ref a1460]) (pc' := 71) rfl ?_
    refine Goes.callS X 2 [] [0] (D_pick l Z a0 h0 hw sel raw 5) (wd hw 2 rfl) (wd hw 3 rfl) (wd hw 4 rfl) (wd hw 5 rfl) pd_y_0 rfl (st := [.int (5 : Int32), .ref a1460]) rfl rfl (G := [(a1460, ar "[C" .char [.int c1461, .int c1462, .int c1463, .int c1464, .int c1465, .int 0])]) rfl rfl ?_
    rintro _ _ ⟨c1466, rfl, h0c1466, h1c1466, rfl⟩
    refine Goes.castore X 0 5 rfl (by decide) (by decide) (Nat.le_of_ble_eq_true rfl) ?_
    rw [own_nca h0c1466 h1c1466]
    refine Goes.new X _ (wd hw 7 rfl) (wd hw 8 rfl) (wd hw 9 rfl) (new_Dig hw) (fun a1467 => ?_)
    refine Goes.runS X [(.dup, 1), (.iconst 0, 1)] (S' := [.int (0 : Int32), .ref a1467, .ref a1467]) (pc' := 80) rfl ?_
    refine Goes.callN X 1 [1] [0] (D_dctor l Z a0 h0 hw cs hCS hcs a1467) rfl (wd hw 10 rfl) (wd hw 11 rfl) (wd hw 9 rfl) (wd hw 12 rfl) pd_y_1 rfl (st := [.ref a1467]) rfl rfl (G := [(a1460, ar "[C" .char [.int c1461, .int c1462, .int c1463, .int c1464, .int c1465, .int c1466])]) rfl rfl ?_
    rintro _ _ ⟨u1468, b1469, h1470, b1471, rfl, rfl⟩
    refine Goes.run X [(.astore 6, 2), (.iload 4, 2)] (L' := #[.val (.int n), .val (.int sel), .val (.long raw), .second, .val (.int (6 : Int32)), .val (.ref a1460), .val (.ref a1467)]) (S' := [.int (6 : Int32)]) (pc' := 87) rfl ?_
    refine Goes.if1 X (pc' := 100) (o := 13) (cd := .le) (fun q => absurd q (by decide)) (fun _ => ?_)
    refine Goes.runS X [(.aload 6, 2), (.aload 5, 2), (.iconst 0, 1)] (S' := [.int (0 : Int32), .ref a1460, .ref a1467]) (pc' := 95) rfl ?_
    refine Goes.caload X 4 0 rfl (by decide) (by decide) rfl ?_
    refine Goes.callV X 0 0 [0, 1, 2, 3] [4] rfl (D_add l Z a0 h0 hw cs hCS hcs a1467 u1468 h1470 b1469 (.ref b1471) 0 0 (Or.inl rfl : own_ok 0) 0 0 0 0 0 0 (by omega) (List.replicate 16 (.int 0)) (by decide) c1461 (own_le h1c1461)) (wd hw 56 rfl) (wd hw 57 rfl) (wd hw 59 rfl) (wd hw 58 rfl) (own_nf X (wd hw 59 rfl)) (wd hw 9 rfl) (wd hw 60 rfl) pd_y_6 rfl (st := []) rfl rfl (G := [(a1460, ar "[C" .char [.int c1461, .int c1462, .int c1463, .int c1464, .int c1465, .int c1466])]) rfl rfl ?_
    rintro _ _ ⟨r1472, sg1473, pl1474, ne1475, ed1476, ex1477, k1478, bs1479, rfl, hk1480, hbs1481, rfl⟩
    obtain ⟨s1482, hs1483⟩ : ∃ z, (own_st 0 c1461) = z := ⟨_, rfl⟩
    obtain ⟨e1484, he1485⟩ : ∃ z, (own_en 0 0 c1461) = z := ⟨_, rfl⟩
    rw [hs1483, he1485]
    refine Goes.runS X [(.pop, 1), (.iload 4, 2), (.iconst 1, 1)] (S' := [.int (1 : Int32), .int (6 : Int32)]) (pc' := 103) rfl ?_
    refine Goes.if2 X (pc' := 116) (o := 13) (cd := .le) (fun q => absurd q (by decide)) (fun _ => ?_)
    refine Goes.runS X [(.aload 6, 2), (.aload 5, 2), (.iconst 1, 1)] (S' := [.int (1 : Int32), .ref a1460, .ref a1467]) (pc' := 111) rfl ?_
    refine Goes.caload X 4 1 rfl (by decide) (by decide) rfl ?_
    refine Goes.callV X 0 0 [0, 1, 2, 3] [4] rfl (D_add l Z a0 h0 hw cs hCS hcs a1467 u1468 h1470 b1469 (.ref b1471) s1482 e1484 (hs1483 ▸ own_st_ok c1461 (Or.inl rfl : own_ok 0)) sg1473 pl1474 ne1475 ed1476 ex1477 k1478 (by omega) bs1479 hbs1481 c1462 (own_le h1c1462)) (wd hw 56 rfl) (wd hw 57 rfl) (wd hw 59 rfl) (wd hw 58 rfl) (own_nf X (wd hw 59 rfl)) (wd hw 9 rfl) (wd hw 60 rfl) pd_y_6 rfl (st := []) rfl rfl (G := [(a1460, ar "[C" .char [.int c1461, .int c1462, .int c1463, .int c1464, .int c1465, .int c1466])]) rfl rfl ?_
    rintro _ _ ⟨r1486, sg1487, pl1488, ne1489, ed1490, ex1491, k1492, bs1493, rfl, hk1494, hbs1495, rfl⟩
    obtain ⟨s1496, hs1497⟩ : ∃ z, (own_st s1482 c1462) = z := ⟨_, rfl⟩
    obtain ⟨e1498, he1499⟩ : ∃ z, (own_en e1484 s1482 c1462) = z := ⟨_, rfl⟩
    rw [hs1497, he1499]
    refine Goes.runS X [(.pop, 1), (.iload 4, 2), (.iconst 2, 1)] (S' := [.int (2 : Int32), .int (6 : Int32)]) (pc' := 119) rfl ?_
    refine Goes.if2 X (pc' := 132) (o := 13) (cd := .le) (fun q => absurd q (by decide)) (fun _ => ?_)
    refine Goes.runS X [(.aload 6, 2), (.aload 5, 2), (.iconst 2, 1)] (S' := [.int (2 : Int32), .ref a1460, .ref a1467]) (pc' := 127) rfl ?_
    refine Goes.caload X 4 2 rfl (by decide) (by decide) rfl ?_
    refine Goes.callV X 0 0 [0, 1, 2, 3] [4] rfl (D_add l Z a0 h0 hw cs hCS hcs a1467 u1468 h1470 b1469 (.ref b1471) s1496 e1498 (hs1497 ▸ own_st_ok c1462 (hs1483 ▸ own_st_ok c1461 (Or.inl rfl : own_ok 0))) sg1487 pl1488 ne1489 ed1490 ex1491 k1492 (by omega) bs1493 hbs1495 c1463 (own_le h1c1463)) (wd hw 56 rfl) (wd hw 57 rfl) (wd hw 59 rfl) (wd hw 58 rfl) (own_nf X (wd hw 59 rfl)) (wd hw 9 rfl) (wd hw 60 rfl) pd_y_6 rfl (st := []) rfl rfl (G := [(a1460, ar "[C" .char [.int c1461, .int c1462, .int c1463, .int c1464, .int c1465, .int c1466])]) rfl rfl ?_
    rintro _ _ ⟨r1500, sg1501, pl1502, ne1503, ed1504, ex1505, k1506, bs1507, rfl, hk1508, hbs1509, rfl⟩
    obtain ⟨s1510, hs1511⟩ : ∃ z, (own_st s1496 c1463) = z := ⟨_, rfl⟩
    obtain ⟨e1512, he1513⟩ : ∃ z, (own_en e1498 s1496 c1463) = z := ⟨_, rfl⟩
    rw [hs1511, he1513]
    refine Goes.runS X [(.pop, 1), (.iload 4, 2), (.iconst 3, 1)] (S' := [.int (3 : Int32), .int (6 : Int32)]) (pc' := 135) rfl ?_
    refine Goes.if2 X (pc' := 148) (o := 13) (cd := .le) (fun q => absurd q (by decide)) (fun _ => ?_)
    refine Goes.runS X [(.aload 6, 2), (.aload 5, 2), (.iconst 3, 1)] (S' := [.int (3 : Int32), .ref a1460, .ref a1467]) (pc' := 143) rfl ?_
    refine Goes.caload X 4 3 rfl (by decide) (by decide) rfl ?_
    refine Goes.callV X 0 0 [0, 1, 2, 3] [4] rfl (D_add l Z a0 h0 hw cs hCS hcs a1467 u1468 h1470 b1469 (.ref b1471) s1510 e1512 (hs1511 ▸ own_st_ok c1463 (hs1497 ▸ own_st_ok c1462 (hs1483 ▸ own_st_ok c1461 (Or.inl rfl : own_ok 0)))) sg1501 pl1502 ne1503 ed1504 ex1505 k1506 (by omega) bs1507 hbs1509 c1464 (own_le h1c1464)) (wd hw 56 rfl) (wd hw 57 rfl) (wd hw 59 rfl) (wd hw 58 rfl) (own_nf X (wd hw 59 rfl)) (wd hw 9 rfl) (wd hw 60 rfl) pd_y_6 rfl (st := []) rfl rfl (G := [(a1460, ar "[C" .char [.int c1461, .int c1462, .int c1463, .int c1464, .int c1465, .int c1466])]) rfl rfl ?_
    rintro _ _ ⟨r1514, sg1515, pl1516, ne1517, ed1518, ex1519, k1520, bs1521, rfl, hk1522, hbs1523, rfl⟩
    obtain ⟨s1524, hs1525⟩ : ∃ z, (own_st s1510 c1464) = z := ⟨_, rfl⟩
    obtain ⟨e1526, he1527⟩ : ∃ z, (own_en e1512 s1510 c1464) = z := ⟨_, rfl⟩
    rw [hs1525, he1527]
    refine Goes.runS X [(.pop, 1), (.iload 4, 2), (.iconst 4, 1)] (S' := [.int (4 : Int32), .int (6 : Int32)]) (pc' := 151) rfl ?_
    refine Goes.if2 X (pc' := 164) (o := 13) (cd := .le) (fun q => absurd q (by decide)) (fun _ => ?_)
    refine Goes.runS X [(.aload 6, 2), (.aload 5, 2), (.iconst 4, 1)] (S' := [.int (4 : Int32), .ref a1460, .ref a1467]) (pc' := 159) rfl ?_
    refine Goes.caload X 4 4 rfl (by decide) (by decide) rfl ?_
    refine Goes.callV X 0 0 [0, 1, 2, 3] [4] rfl (D_add l Z a0 h0 hw cs hCS hcs a1467 u1468 h1470 b1469 (.ref b1471) s1524 e1526 (hs1525 ▸ own_st_ok c1464 (hs1511 ▸ own_st_ok c1463 (hs1497 ▸ own_st_ok c1462 (hs1483 ▸ own_st_ok c1461 (Or.inl rfl : own_ok 0))))) sg1515 pl1516 ne1517 ed1518 ex1519 k1520 (by omega) bs1521 hbs1523 c1465 (own_le h1c1465)) (wd hw 56 rfl) (wd hw 57 rfl) (wd hw 59 rfl) (wd hw 58 rfl) (own_nf X (wd hw 59 rfl)) (wd hw 9 rfl) (wd hw 60 rfl) pd_y_6 rfl (st := []) rfl rfl (G := [(a1460, ar "[C" .char [.int c1461, .int c1462, .int c1463, .int c1464, .int c1465, .int c1466])]) rfl rfl ?_
    rintro _ _ ⟨r1528, sg1529, pl1530, ne1531, ed1532, ex1533, k1534, bs1535, rfl, hk1536, hbs1537, rfl⟩
    obtain ⟨s1538, hs1539⟩ : ∃ z, (own_st s1524 c1465) = z := ⟨_, rfl⟩
    obtain ⟨e1540, he1541⟩ : ∃ z, (own_en e1526 s1524 c1465) = z := ⟨_, rfl⟩
    rw [hs1539, he1541]
    refine Goes.runS X [(.pop, 1), (.iload 4, 2), (.iconst 5, 1)] (S' := [.int (5 : Int32), .int (6 : Int32)]) (pc' := 167) rfl ?_
    refine Goes.if2 X (pc' := 180) (o := 13) (cd := .le) (fun q => absurd q (by decide)) (fun _ => ?_)
    refine Goes.runS X [(.aload 6, 2), (.aload 5, 2), (.iconst 5, 1)] (S' := [.int (5 : Int32), .ref a1460, .ref a1467]) (pc' := 175) rfl ?_
    refine Goes.caload X 4 5 rfl (by decide) (by decide) rfl ?_
    refine Goes.callV X 0 0 [0, 1, 2, 3] [4] rfl (D_add l Z a0 h0 hw cs hCS hcs a1467 u1468 h1470 b1469 (.ref b1471) s1538 e1540 (hs1539 ▸ own_st_ok c1465 (hs1525 ▸ own_st_ok c1464 (hs1511 ▸ own_st_ok c1463 (hs1497 ▸ own_st_ok c1462 (hs1483 ▸ own_st_ok c1461 (Or.inl rfl : own_ok 0)))))) sg1529 pl1530 ne1531 ed1532 ex1533 k1534 (by omega) bs1535 hbs1537 c1466 (own_le h1c1466)) (wd hw 56 rfl) (wd hw 57 rfl) (wd hw 59 rfl) (wd hw 58 rfl) (own_nf X (wd hw 59 rfl)) (wd hw 9 rfl) (wd hw 60 rfl) pd_y_6 rfl (st := []) rfl rfl (G := [(a1460, ar "[C" .char [.int c1461, .int c1462, .int c1463, .int c1464, .int c1465, .int c1466])]) rfl rfl ?_
    rintro _ _ ⟨r1542, sg1543, pl1544, ne1545, ed1546, ex1547, k1548, bs1549, rfl, hk1550, hbs1551, rfl⟩
    obtain ⟨s1552, hs1553⟩ : ∃ z, (own_st s1538 c1466) = z := ⟨_, rfl⟩
    obtain ⟨e1554, he1555⟩ : ∃ z, (own_en e1540 s1538 c1466) = z := ⟨_, rfl⟩
    rw [hs1553, he1555]
    refine Goes.runS X [(.pop, 1), (.aload 6, 2)] (S' := [.ref a1467]) (pc' := 182) rfl ?_
    refine Goes.callV X 0 0 [0] [1, 2, 3, 4] rfl (D_dec l Z a0 h0 hw a1467 s1552 e1554 (.long sg1543) (.long pl1544) (.int ne1545) (.int ed1546) (.long ex1547) (.ref u1468) (.ref h1470) (.int 0) (.int 0)) (wd hw 46 rfl) (wd hw 47 rfl) (wd hw 49 rfl) (wd hw 48 rfl) (own_nf X (wd hw 49 rfl)) (wd hw 9 rfl) (wd hw 50 rfl) pd_y_4 rfl (st := []) rfl rfl (G := [(u1468, o_SB (.ref b1469) (.int 0) (.int (Int32.ofNat k1548))), (b1469, oBs bs1549), (h1470, o_SB (.ref b1471) (.int 0) (.int 0)), (a1460, ar "[C" .char [.int c1461, .int c1462, .int c1463, .int c1464, .int c1465, .int c1466])]) rfl rfl ?_
    rintro _ _ ⟨rfl, rfl⟩
    refine Goes.runS X [(.aload 5, 2), (.iload 4, 2)] (S' := [.int (6 : Int32), .ref a1460, .int (own_dec s1552 e1554)]) (pc' := 189) rfl ?_
    refine Goes.callS X 1 [4] [0, 1, 2, 3] (D_ref6 l Z a0 h0 hw a1460 c1461 c1462 c1463 c1464 c1465 c1466) (wd hw 53 rfl) (wd hw 54 rfl) (wd hw 4 rfl) (wd hw 55 rfl) pd_y_5 rfl (st := [.int (own_dec s1552 e1554)]) rfl rfl (G := [(a1467, o_Dig (.int s1552) (.int e1554) (.long sg1543) (.long pl1544) (.int ne1545) (.int ed1546) (.long ex1547) (.ref u1468) (.ref h1470) (.int 0) (.int 0)), (u1468, o_SB (.ref b1469) (.int 0) (.int (Int32.ofNat k1548))), (b1469, oBs bs1549), (h1470, o_SB (.ref b1471) (.int 0) (.int 0))]) rfl rfl ?_
    rintro _ _ ⟨rfl, rfl⟩
    subst he1555
    subst hs1553
    subst he1541
    subst hs1539
    subst he1527
    subst hs1525
    subst he1513
    subst hs1511
    subst he1499
    subst hs1497
    subst he1485
    subst hs1483
    rw [own_law6 c1461 c1462 c1463 c1464 c1465 c1466 0]
    refine Goes.if2 X (pc' := 199) (o := 7) (cd := .ne) (fun q => absurd (q.symm.trans (by simp [if_icmp.holds] : if_icmp.holds .ne (Int32.ofNat (own_refN 6 [(own_cl c1461), (own_cl c1462), (own_cl c1463), (own_cl c1464), (own_cl c1465), (own_cl c1466)])) (Int32.ofNat (own_refN 6 [(own_cl c1461), (own_cl c1462), (own_cl c1463), (own_cl c1464), (own_cl c1465), (own_cl c1466)])) = false)) (by decide)) (fun _ => ?_)
    refine Goes.runS X [(.iconst 1, 1)] (S' := [.int (1 : Int32)]) (pc' := 196) rfl ?_
    refine Goes.goto X (o := 4) (pc' := 200) ?_
    refine Goes.retI X (by simp) rfl ?_
    exact rfl
set_option maxRecDepth 65536 in
set_option maxHeartbeats 40000000 in
theorem comes_1 {Post : Tables → Env → Array Value → State → Outcome → State → Prop} (hpost : ∀ tb e args s v u, (limb_1_1.after args s (.returned v) u = true ∧ limb_1_2.after args s (.returned v) u = true ∧ True) → FrameEnd s (.returned v) u (Jvm.fieldLocs frame_1_writes args s ++ Jvm.arrayLocs frame_1_arrays args s ++ Jvm.staticLocs frame_1_statics s) 24 192 → Post tb e args s (.returned v) u) :
    ArmFor flags0 classFile x code maxLocals ret World_1 tables_1 room_1 Calls_1 rest_1 Pre_1 Post := by
  intro l hfl _ _ p e ha hc hk s m args below hf hA hF happ hP
  obtain ⟨hcalls, hrest, hpre⟩ := hP
  obtain ⟨-, -, -, hnamed, -, -, -, hat⟩ := (Spec.applies_iff hf).mp happ
  obtain ⟨hg, hn⟩ := and_e (Cond.before_iff.mp (show (Jvm.Cond.and given_1 narrow_1).before args s = true from hpre))
  obtain ⟨h1, h2⟩ := and_e hg
  obtain ⟨w0, w1, w2, rfl⟩ : ∃ w0 w1 w2 : Value, args = #[w0, w1, w2] := by
    have hs : args.size = 3 := by simpa [Cond.value, given_1] using h1
    obtain ⟨L⟩ := args
    match L, hs with
    | [w0, w1, w2], _ => exact ⟨w0, w1, w2, rfl⟩
  have hw := fun d (hd : d ∈ tables_1) => atoms_spec (ws := Jvm.Cond.code x code maxLocals ret :: tables_1) hat d (List.mem_cons_of_mem _ hd)
  have hfit : Fit s := fun {y c} hc i hi => by
    obtain ⟨ha, rfl⟩ := Array.getElem?_eq_some_iff.mp hc
    have q := List.all_eq_true.mp ((Array.all_eq_true_iff_forall_mem.mp hF) _ (Array.getElem_mem ha)) i (List.mem_range.mpr hi)
    simpa [Array.getElem?_eq_getElem hi] using q
  obtain ⟨k0, h2⟩ := and_e h2
  obtain ⟨z0, ez0⟩ := is_v k0
  obtain rfl : w0 = (.int z0) := Option.some.inj ez0
  obtain ⟨k1, h2⟩ := and_e h2
  obtain ⟨z1, ez1⟩ := is_v k1
  obtain rfl : w1 = (.int z1) := Option.some.inj ez1
  have k2 := h2
  obtain ⟨z2, ez2⟩ := isL_v k2
  obtain rfl : w2 = (.long z2) := Option.some.inj ez2
  obtain ⟨hsets, hown0⟩ := atoms_of _ (rest_1_c_eq ▸ (show rest_1_c.before _ s = true from hrest))
  have n5 := not_v (Cond.before_iff.mp (hsets _ (List.mem_of_getElem? (i := 2) rfl)))
  obtain ⟨cs, ecs⟩ := is_v (Cond.before_iff.mp (hsets _ (List.mem_of_getElem? (i := 1) rfl)))
  have hCS : Sta s s.heap "java/lang/String" "COMPACT_STRINGS" "Z" (.int cs) := Sta.start ecs (Or.inl (hsets _ (List.mem_of_getElem? (i := 0) rfl)))
  have hcs : ¬ (cs = (0 : Int32)) := gotF (Cond.eq_ints ecs (Term.int_eval (0))) n5
  obtain ⟨sio, esio, rsio⟩ := isR_v (Cond.before_iff.mp (hsets _ (List.mem_of_getElem? (i := 8) rfl)))
  have hSIO : Sta s s.heap "jdk/internal/util/Preconditions" "SIOOBE_FORMATTER" "Ljava/util/function/BiFunction;" sio := Sta.start esio (Or.inl (hsets _ (List.mem_of_getElem? (i := 7) rfl)))
  have D := D_law l s _ s.heap hw cs hCS hcs z0 z1 z2
  obtain ⟨n, o, g1, g2, g3, v, L, rfl, ⟨N, F', hQ, -⟩, hq⟩ := D tables_1 s.heap (Hp.start s _) p e ha hc hk s m _ below hf ((Spec.applies_iff_loose hf).mp happ).1 ⟨rfl, State.Warmed39.refl s, rfl⟩ trivial
  obtain rfl := hQ
  exact ⟨n, _, g1, g2, g3, hpost _ _ _ _ _ _ ⟨Cond.after_iff.mpr rfl, Cond.after_iff.mpr (eq_i res_at (Term.int_eval (1)) rfl), trivial⟩ ⟨hq.1, hq.2.1, (hq.2.2.sift fun y hy => Or.inr (N y hy)).mono (by decide) (by decide)⟩⟩
theorem main_1_1 : Claimed_1_1 := comes_1 fun _ _ _ _ _ _ h hF => ⟨h.1, hF⟩
theorem main_1_2 : Claimed_1_2 := comes_1 fun _ _ _ _ _ _ h hF => ⟨h.2.1, hF⟩
end Jvm.Pilot.@@N@@
namespace Jvm.Pilot.@@N@@
open Jvm Jvm.ClassFile Sem Op Lib Jvm.Free Jvm.Stand Jvm.Pilot.@@N@@.Jvm.D
/-! MADE BY PROGRAM (witnessworld.py) out of the Statement's table words and the real class files: 23 classes; the members and pool entries that the words name. The judged class is class 1, her method 1. -/
namespace start1
open Jvm.ClassFile
def u (s : String) : CpInfo := .utf8 (stringToUtf16 s)
/-- a pool by its gaps: so many unusable entries, then the entry; so many at the end -/
def gap : Nat → List CpInfo → List CpInfo
  | 0, r => r
  | n + 1, r => .unusable :: gap n r
def poolList (es : List (Nat × CpInfo)) (last : Nat) : List CpInfo := es.foldr (fun e r => gap e.1 (e.2 :: r)) (gap last [])
def pool (es : List (Nat × CpInfo)) (last : Nat) : Array CpInfo := ⟨poolList es last⟩
def fileOf (pool : Array CpInfo) (this : Nat) (attrs : Array Attribute := #[]) (ms : Array MethodInfo := #[]) (fl : Nat := 33) (sup : Nat := 0) (ifs : Array Nat := #[]) (fds : Array FieldInfo := #[]) : ClassFile where
  minorVersion := 0
  majorVersion := 65
  constantPool := pool
  accessFlags := fl
  thisClass := this
  superClass := sup
  interfaces := ifs
  fields := fds
  methods := ms
  attributes := attrs
def plain (name : String) (sup : Option ClassId) : Class where
  name := name
  kind := .ordinary
  loader := none
  accessFlags := 33
  super := sup
  interfaces := #[]
  cf := none
  fields := #[]
  methods := #[]
  instanceTypes := #[]
  staticTypes := #[]
  resolved := #[]
  callSites := []
  init := .initialized
  statics := none
  mirror := none

def pool0 : Array CpInfo := pool [(5, u "<init>"), (0, u "()V"), (1, .class_ 10), (1, u "java/lang/Object")] 113

def k0c0 : Code := { maxStack := 0, maxLocals := 1, code := object_method_1_code, exceptionTable := #[], attributes := #[] }
def k0m0 : Method := { name := "<init>", desc := "()V", sig := { parameters := [], returnType := none }, accessFlags := 1, code := some k0c0 }
/-- java/lang/Object -/
def k0 : Class := { plain "java/lang/Object" none with
  accessFlags := 33
  interfaces := #[]
  cf := some (fileOf pool0 8 #[] #[{ accessFlags := 1, nameIndex := 5, descriptorIndex := 6, attributes := #[] }] 33 0 #[] #[])
  fields := #[]
  methods := #[k0m0]
  instanceTypes := #[]
  staticTypes := #[]
  resolved := Array.replicate 124 none
  statics := none }

def pool1 : Array CpInfo := pool [(2, .class_ 4), (1, u "java/lang/Object"), (0, u "<init>"), (0, u "()V"), (0, .integer 2147483647), (0, .methodref 9 10), (0, .class_ 11), (0, .nameAndType 12 13), (0, u "com/example/yuanterm/yuanterm/DigitsIsDecimalPinLaw"), (0, u "pick"), (0, u "(IJI)C"), (0, .class_ 15), (0, u "com/example/yuanterm/yuanterm/Decimals$Digits"), (0, .methodref 14 17), (0, .nameAndType 5 18), (0, u "(I)V"), (0, .methodref 14 20), (0, .nameAndType 21 22), (0, u "add"), (0, u "(C)Z"), (0, .methodref 14 24), (0, .nameAndType 25 26), (0, u "isDecimal"), (0, u "()Z"), (0, .methodref 9 28), (0, .nameAndType 29 30), (0, u "reference"), (0, u "([CI)Z"), (0, .long 255), (1, .methodref 9 34), (0, .nameAndType 35 22), (0, u "digit"), (0, .methodref 9 37), (0, .nameAndType 38 39), (0, u "kind"), (0, u "(CI)Z"), (0, .methodref 9 41), (0, .nameAndType 42 43), (0, u "at"), (0, u "([CIIII)I"), (0, .methodref 9 45), (0, .nameAndType 46 47), (0, u "count"), (0, u "([CIII)I"), (0, .methodref 9 49), (0, .nameAndType 50 47), (0, u "pos"), (2, u "law"), (0, u "(IIJ)Z")] 9

def k1m0 : Method := { name := "<init>", desc := "()V", sig := { parameters := [], returnType := none }, accessFlags := 2, code := none }
def k1c1 : Code := { maxStack := 6, maxLocals := 7, code := code, exceptionTable := #[], attributes := #[] }
def k1m1 : Method := { name := "law", desc := "(IIJ)Z", sig := { parameters := [.int, .int, .long], returnType := some .boolean }, accessFlags := 9, code := some k1c1 }
def k1c2 : Code := { maxStack := 4, maxLocals := 6, code := method_3_code, exceptionTable := #[], attributes := #[] }
def k1m2 : Method := { name := "pick", desc := "(IJI)C", sig := { parameters := [.int, .long, .int], returnType := some .char }, accessFlags := 10, code := some k1c2 }
def k1c3 : Code := { maxStack := 2, maxLocals := 1, code := method_4_code, exceptionTable := #[], attributes := #[] }
def k1m3 : Method := { name := "digit", desc := "(C)Z", sig := { parameters := [.char], returnType := some .boolean }, accessFlags := 10, code := some k1c3 }
def k1c4 : Code := { maxStack := 2, maxLocals := 2, code := method_5_code, exceptionTable := #[], attributes := #[] }
def k1m4 : Method := { name := "kind", desc := "(CI)Z", sig := { parameters := [.char, .int], returnType := some .boolean }, accessFlags := 10, code := some k1c4 }
def k1c5 : Code := { maxStack := 2, maxLocals := 5, code := method_6_code, exceptionTable := #[], attributes := #[] }
def k1m5 : Method := { name := "at", desc := "([CIIII)I", sig := { parameters := [(.array .char), .int, .int, .int, .int], returnType := some .int }, accessFlags := 10, code := some k1c5 }
def k1c6 : Code := { maxStack := 6, maxLocals := 4, code := method_7_code, exceptionTable := #[], attributes := #[] }
def k1m6 : Method := { name := "count", desc := "([CIII)I", sig := { parameters := [(.array .char), .int, .int, .int], returnType := some .int }, accessFlags := 10, code := some k1c6 }
def k1c7 : Code := { maxStack := 7, maxLocals := 4, code := method_8_code, exceptionTable := #[], attributes := #[] }
def k1m7 : Method := { name := "pos", desc := "([CIII)I", sig := { parameters := [(.array .char), .int, .int, .int], returnType := some .int }, accessFlags := 10, code := some k1c7 }
def k1c8 : Code := { maxStack := 4, maxLocals := 9, code := method_9_code, exceptionTable := #[], attributes := #[] }
def k1m8 : Method := { name := "reference", desc := "([CI)Z", sig := { parameters := [(.array .char), .int], returnType := some .boolean }, accessFlags := 10, code := some k1c8 }
/-- com/example/yuanterm/yuanterm/DigitsIsDecimalPinLaw -/
def k1 : Class := { plain "com/example/yuanterm/yuanterm/DigitsIsDecimalPinLaw" (some 0) with
  accessFlags := 49
  interfaces := #[]
  cf := some (fileOf pool1 9 #[] #[{ accessFlags := 2, nameIndex := 5, descriptorIndex := 6, attributes := #[] }, { accessFlags := 9, nameIndex := 53, descriptorIndex := 54, attributes := #[] }, { accessFlags := 10, nameIndex := 12, descriptorIndex := 13, attributes := #[] }, { accessFlags := 10, nameIndex := 35, descriptorIndex := 22, attributes := #[] }, { accessFlags := 10, nameIndex := 38, descriptorIndex := 39, attributes := #[] }, { accessFlags := 10, nameIndex := 42, descriptorIndex := 43, attributes := #[] }, { accessFlags := 10, nameIndex := 46, descriptorIndex := 47, attributes := #[] }, { accessFlags := 10, nameIndex := 50, descriptorIndex := 47, attributes := #[] }, { accessFlags := 10, nameIndex := 29, descriptorIndex := 30, attributes := #[] }] 49 2 #[] #[])
  fields := #[]
  methods := #[k1m0, k1m1, k1m2, k1m3, k1m4, k1m5, k1m6, k1m7, k1m8]
  instanceTypes := #[]
  staticTypes := #[]
  resolved := Array.replicate 64 none
  statics := none }

def pool2 : Array CpInfo := pool [(1, .class_ 2), (0, u "com/example/yuanterm/yuanterm/Decimals"), (0, .methodref 4 5), (0, .class_ 6), (0, .nameAndType 7 8), (0, u "java/lang/Object"), (0, u "<init>"), (0, u "()V"), (0, .class_ 10), (0, u "com/example/yuanterm/yuanterm/Decimals$Digits"), (0, .fieldref 9 12), (0, .nameAndType 13 14), (0, u "state"), (0, u "I"), (0, .class_ 16), (0, u "java/lang/StringBuilder"), (0, .methodref 15 5), (0, .fieldref 9 19), (0, .nameAndType 20 21), (0, u "unscaled"), (0, u "Ljava/lang/StringBuilder;"), (0, .fieldref 9 23), (0, .nameAndType 24 21), (0, u "head"), (0, .fieldref 9 26), (0, .nameAndType 27 14), (0, u "headState"), (0, .fieldref 9 29), (0, .nameAndType 30 14), (0, u "kept"), (0, .methodref 1 32), (0, .nameAndType 33 34), (0, u "isDigit"), (0, u "(C)Z"), (0, .fieldref 9 36), (0, .nameAndType 37 38), (0, u "ended"), (0, u "Z"), (0, .methodref 9 40), (0, .nameAndType 41 42), (0, u "significant"), (0, u "(C)V"), (0, .fieldref 9 44), (0, .nameAndType 45 46), (0, u "places"), (0, u "J"), (0, .fieldref 9 48), (0, .nameAndType 41 46), (0, .fieldref 9 50), (0, .nameAndType 51 38), (0, u "negativeExponent"), (0, .fieldref 9 53), (0, .nameAndType 54 14), (0, u "exponentDigits"), (0, .long 10), (1, .fieldref 9 58), (0, .nameAndType 59 46), (0, u "exponent"), (0, .methodref 15 61), (0, .nameAndType 62 63), (0, u "length"), (0, u "()I"), (0, .methodref 15 65), (0, .nameAndType 66 67), (0, u "append"), (0, u "(C)Ljava/lang/StringBuilder;"), (0, .fieldref 9 69), (0, .nameAndType 70 46), (0, u "headSignificant"), (0, .fieldref 9 72), (0, .nameAndType 73 46), (0, u "headPlaces"), (0, .fieldref 9 75), (0, .nameAndType 76 14), (0, u "headExponentDigits"), (2, u "isDecimal"), (0, u "()Z"), (17, u "(I)V"), (24, u "MORE_DIGITS"), (0, u "Ljava/lang/String;"), (27, u "START"), (2, u "MINUS"), (1, u "ZERO"), (1, u "WHOLE"), (1, u "POINT"), (1, u "FRACTION"), (1, u "EXPONENT_MARK"), (1, u "EXPONENT_SIGN"), (1, u "EXPONENT"), (1, u "ENDED"), (1, u "LONGEST_EXPONENT"), (3, u "add")] 29

def k2c0 : Code := { maxStack := 3, maxLocals := 2, code := prog_28_method_1_code, exceptionTable := #[], attributes := #[] }
def k2m0 : Method := { name := "<init>", desc := "(I)V", sig := { parameters := [.int], returnType := none }, accessFlags := 0, code := some k2c0 }
def k2c1 : Code := { maxStack := 5, maxLocals := 5, code := prog_28_method_2_code, exceptionTable := #[], attributes := #[] }
def k2m1 : Method := { name := "add", desc := "(C)Z", sig := { parameters := [.char], returnType := some .boolean }, accessFlags := 0, code := some k2c1 }
def k2c2 : Code := { maxStack := 2, maxLocals := 1, code := prog_28_method_3_code, exceptionTable := #[], attributes := #[] }
def k2m2 : Method := { name := "isDecimal", desc := "()Z", sig := { parameters := [], returnType := some .boolean }, accessFlags := 0, code := some k2c2 }
def k2c3 : Code := { maxStack := 5, maxLocals := 2, code := prog_28_method_8_code, exceptionTable := #[], attributes := #[] }
def k2m3 : Method := { name := "significant", desc := "(C)V", sig := { parameters := [.char], returnType := none }, accessFlags := 2, code := some k2c3 }
/-- com/example/yuanterm/yuanterm/Decimals$Digits -/
def k2 : Class := { plain "com/example/yuanterm/yuanterm/Decimals$Digits" (some 0) with
  accessFlags := 48
  interfaces := #[]
  cf := some (fileOf pool2 9 #[.nestHost 1] #[{ accessFlags := 0, nameIndex := 7, descriptorIndex := 98, attributes := #[] }, { accessFlags := 0, nameIndex := 177, descriptorIndex := 34, attributes := #[] }, { accessFlags := 0, nameIndex := 79, descriptorIndex := 80, attributes := #[] }, { accessFlags := 2, nameIndex := 41, descriptorIndex := 42, attributes := #[] }] 48 4 #[] #[{ accessFlags := 26, nameIndex := 152, descriptorIndex := 14, attributes := #[] }, { accessFlags := 26, nameIndex := 155, descriptorIndex := 14, attributes := #[] }, { accessFlags := 26, nameIndex := 157, descriptorIndex := 14, attributes := #[] }, { accessFlags := 26, nameIndex := 159, descriptorIndex := 14, attributes := #[] }, { accessFlags := 26, nameIndex := 161, descriptorIndex := 14, attributes := #[] }, { accessFlags := 26, nameIndex := 163, descriptorIndex := 14, attributes := #[] }, { accessFlags := 26, nameIndex := 165, descriptorIndex := 14, attributes := #[] }, { accessFlags := 26, nameIndex := 167, descriptorIndex := 14, attributes := #[] }, { accessFlags := 26, nameIndex := 169, descriptorIndex := 14, attributes := #[] }, { accessFlags := 26, nameIndex := 171, descriptorIndex := 14, attributes := #[] }, { accessFlags := 26, nameIndex := 173, descriptorIndex := 14, attributes := #[] }, { accessFlags := 26, nameIndex := 123, descriptorIndex := 124, attributes := #[] }, { accessFlags := 2, nameIndex := 13, descriptorIndex := 14, attributes := #[] }, { accessFlags := 2, nameIndex := 37, descriptorIndex := 38, attributes := #[] }, { accessFlags := 2, nameIndex := 41, descriptorIndex := 46, attributes := #[] }, { accessFlags := 2, nameIndex := 45, descriptorIndex := 46, attributes := #[] }, { accessFlags := 2, nameIndex := 51, descriptorIndex := 38, attributes := #[] }, { accessFlags := 2, nameIndex := 54, descriptorIndex := 14, attributes := #[] }, { accessFlags := 2, nameIndex := 59, descriptorIndex := 46, attributes := #[] }, { accessFlags := 18, nameIndex := 20, descriptorIndex := 21, attributes := #[] }, { accessFlags := 18, nameIndex := 30, descriptorIndex := 14, attributes := #[] }, { accessFlags := 18, nameIndex := 24, descriptorIndex := 21, attributes := #[] }, { accessFlags := 2, nameIndex := 27, descriptorIndex := 14, attributes := #[] }, { accessFlags := 2, nameIndex := 70, descriptorIndex := 46, attributes := #[] }, { accessFlags := 2, nameIndex := 73, descriptorIndex := 46, attributes := #[] }, { accessFlags := 2, nameIndex := 76, descriptorIndex := 14, attributes := #[] }])
  fields := #[{ name := "START", type := .int, accessFlags := 26, slot := 0, constantValue := 0 }, { name := "MINUS", type := .int, accessFlags := 26, slot := 1, constantValue := 0 }, { name := "ZERO", type := .int, accessFlags := 26, slot := 2, constantValue := 0 }, { name := "WHOLE", type := .int, accessFlags := 26, slot := 3, constantValue := 0 }, { name := "POINT", type := .int, accessFlags := 26, slot := 4, constantValue := 0 }, { name := "FRACTION", type := .int, accessFlags := 26, slot := 5, constantValue := 0 }, { name := "EXPONENT_MARK", type := .int, accessFlags := 26, slot := 6, constantValue := 0 }, { name := "EXPONENT_SIGN", type := .int, accessFlags := 26, slot := 7, constantValue := 0 }, { name := "EXPONENT", type := .int, accessFlags := 26, slot := 8, constantValue := 0 }, { name := "ENDED", type := .int, accessFlags := 26, slot := 9, constantValue := 0 }, { name := "LONGEST_EXPONENT", type := .int, accessFlags := 26, slot := 10, constantValue := 0 }, { name := "MORE_DIGITS", type := (.object "java/lang/String"), accessFlags := 26, slot := 11, constantValue := 0 }, { name := "state", type := .int, accessFlags := 2, slot := 0, constantValue := 0 }, { name := "ended", type := .boolean, accessFlags := 2, slot := 1, constantValue := 0 }, { name := "significant", type := .long, accessFlags := 2, slot := 2, constantValue := 0 }, { name := "places", type := .long, accessFlags := 2, slot := 3, constantValue := 0 }, { name := "negativeExponent", type := .boolean, accessFlags := 2, slot := 4, constantValue := 0 }, { name := "exponentDigits", type := .int, accessFlags := 2, slot := 5, constantValue := 0 }, { name := "exponent", type := .long, accessFlags := 2, slot := 6, constantValue := 0 }, { name := "unscaled", type := (.object "java/lang/StringBuilder"), accessFlags := 18, slot := 7, constantValue := 0 }, { name := "kept", type := .int, accessFlags := 18, slot := 8, constantValue := 0 }, { name := "head", type := (.object "java/lang/StringBuilder"), accessFlags := 18, slot := 9, constantValue := 0 }, { name := "headState", type := .int, accessFlags := 2, slot := 10, constantValue := 0 }, { name := "headSignificant", type := .long, accessFlags := 2, slot := 11, constantValue := 0 }, { name := "headPlaces", type := .long, accessFlags := 2, slot := 12, constantValue := 0 }, { name := "headExponentDigits", type := .int, accessFlags := 2, slot := 13, constantValue := 0 }]
  methods := #[k2m0, k2m1, k2m2, k2m3]
  instanceTypes := #[.int, .boolean, .long, .long, .boolean, .int, .long, (.object "java/lang/StringBuilder"), .int, (.object "java/lang/StringBuilder"), .int, .long, .long, .int]
  staticTypes := #[.int, .int, .int, .int, .int, .int, .int, .int, .int, .int, .int, (.object "java/lang/String")]
  resolved := Array.replicate 207 none
  statics := none }

def pool3 : Array CpInfo := pool [(1, .class_ 2), (0, u "java/lang/Appendable"), (0, .class_ 4), (0, u "java/lang/Object")] 9

/-- java/lang/Appendable -/
def k3 : Class := { plain "java/lang/Appendable" (some 0) with
  accessFlags := 1537
  interfaces := #[]
  cf := some (fileOf pool3 1 #[] #[] 1537 3 #[] #[])
  fields := #[]
  methods := #[]
  instanceTypes := #[]
  staticTypes := #[]
  resolved := Array.replicate 14 none
  statics := none }

def pool4 : Array CpInfo := pool [(2, .class_ 4), (1, u "java/lang/CharSequence"), (42, .class_ 48), (0, u "java/lang/CharSequence$1CodePointIterator"), (10, .class_ 60), (0, u "java/lang/CharSequence$1CharIterator"), (5, .class_ 67), (0, u "java/lang/Object")] 63

/-- java/lang/CharSequence -/
def k4 : Class := { plain "java/lang/CharSequence" (some 0) with
  accessFlags := 1537
  interfaces := #[]
  cf := some (fileOf pool4 2 #[.nestMembers #[47, 59]] #[] 1537 66 #[] #[])
  fields := #[]
  methods := #[]
  instanceTypes := #[]
  staticTypes := #[]
  resolved := Array.replicate 131 none
  statics := none }

def pool5 : Array CpInfo := pool [(1, .class_ 2), (0, u "java/lang/String"), (0, .methodref 4 5), (0, .class_ 6), (0, .nameAndType 7 8), (0, u "java/lang/Object"), (0, u "<init>"), (0, u "()V"), (1, .class_ 12), (1, u "java/lang/AbstractStringBuilder"), (0, u "EMPTYVALUE"), (0, u "[B"), (0, .fieldref 10 16), (0, .nameAndType 17 14), (0, u "value"), (0, .fieldref 1 19), (0, .nameAndType 20 21), (0, u "COMPACT_STRINGS"), (0, u "Z"), (0, .fieldref 10 23), (0, .nameAndType 24 25), (0, u "coder"), (0, u "B"), (8, u "length"), (0, u "()I"), (9, u "append"), (2, .class_ 49), (0, u "java/lang/CharSequence"), (25, u "maybeLatin1"), (3, .fieldref 10 80), (0, .nameAndType 81 82), (0, u "count"), (0, u "I"), (0, .methodref 10 84), (0, .nameAndType 85 86), (0, u "isLatin1"), (0, u "()Z"), (1, .class_ 90), (1, u "java/lang/StringLatin1"), (9, .methodref 10 101), (0, .nameAndType 102 103), (0, u "ensureCapacityInternal"), (0, u "(I)V"), (87, .methodref 88 192), (0, .nameAndType 193 194), (0, u "canEncode"), (0, u "(C)Z"), (97, u "(C)Ljava/lang/AbstractStringBuilder;"), (151, .class_ 445), (0, u "java/lang/Appendable")] 163

def k5m0 : Method := { name := "<init>", desc := "()V", sig := { parameters := [], returnType := none }, accessFlags := 0, code := none }
def k5c1 : Code := { maxStack := 2, maxLocals := 2, code := jdk_68_method_2_code, exceptionTable := #[], attributes := #[] }
def k5m1 : Method := { name := "<init>", desc := "(I)V", sig := { parameters := [.int], returnType := none }, accessFlags := 0, code := some k5c1 }
def k5c2 : Code := { maxStack := 1, maxLocals := 1, code := jdk_68_method_6_code, exceptionTable := #[], attributes := #[] }
def k5m2 : Method := { name := "length", desc := "()I", sig := { parameters := [], returnType := some .int }, accessFlags := 1, code := some k5c2 }
def k5c3 : Code := { maxStack := 4, maxLocals := 3, code := jdk_68_method_9_code, exceptionTable := #[], attributes := #[] }
def k5m3 : Method := { name := "ensureCapacityInternal", desc := "(I)V", sig := { parameters := [.int], returnType := none }, accessFlags := 2, code := some k5c3 }
def k5c4 : Code := { maxStack := 5, maxLocals := 2, code := jdk_68_method_31_code, exceptionTable := #[], attributes := #[] }
def k5m4 : Method := { name := "append", desc := "(C)Ljava/lang/AbstractStringBuilder;", sig := { parameters := [.char], returnType := some (.object "java/lang/AbstractStringBuilder") }, accessFlags := 1, code := some k5c4 }
def k5c5 : Code := { maxStack := 1, maxLocals := 1, code := jdk_68_method_68_code, exceptionTable := #[], attributes := #[] }
def k5m5 : Method := { name := "isLatin1", desc := "()Z", sig := { parameters := [], returnType := some .boolean }, accessFlags := 16, code := some k5c5 }
/-- java/lang/AbstractStringBuilder -/
def k5 : Class := { plain "java/lang/AbstractStringBuilder" (some 0) with
  accessFlags := 1056
  interfaces := #[3, 4]
  cf := some (fileOf pool5 10 #[] #[{ accessFlags := 0, nameIndex := 7, descriptorIndex := 8, attributes := #[] }, { accessFlags := 0, nameIndex := 7, descriptorIndex := 103, attributes := #[] }, { accessFlags := 1, nameIndex := 34, descriptorIndex := 35, attributes := #[] }, { accessFlags := 2, nameIndex := 102, descriptorIndex := 103, attributes := #[] }, { accessFlags := 1, nameIndex := 45, descriptorIndex := 292, attributes := #[] }, { accessFlags := 16, nameIndex := 85, descriptorIndex := 86, attributes := #[] }] 1056 4 #[444, 48] #[{ accessFlags := 0, nameIndex := 17, descriptorIndex := 14, attributes := #[] }, { accessFlags := 0, nameIndex := 24, descriptorIndex := 25, attributes := #[] }, { accessFlags := 0, nameIndex := 75, descriptorIndex := 21, attributes := #[] }, { accessFlags := 0, nameIndex := 81, descriptorIndex := 82, attributes := #[] }, { accessFlags := 26, nameIndex := 13, descriptorIndex := 14, attributes := #[] }])
  fields := #[{ name := "value", type := (.array .byte), accessFlags := 0, slot := 0, constantValue := 0 }, { name := "coder", type := .byte, accessFlags := 0, slot := 1, constantValue := 0 }, { name := "maybeLatin1", type := .boolean, accessFlags := 0, slot := 2, constantValue := 0 }, { name := "count", type := .int, accessFlags := 0, slot := 3, constantValue := 0 }, { name := "EMPTYVALUE", type := (.array .byte), accessFlags := 26, slot := 0, constantValue := 0 }]
  methods := #[k5m0, k5m1, k5m2, k5m3, k5m4, k5m5]
  instanceTypes := #[(.array .byte), .byte, .boolean, .int]
  staticTypes := #[(.array .byte)]
  resolved := Array.replicate 609 none
  statics := none }

def pool6 : Array CpInfo := pool [(1, .class_ 2), (0, u "java/io/Serializable"), (0, .class_ 4), (0, u "java/lang/Object")] 2

/-- java/io/Serializable -/
def k6 : Class := { plain "java/io/Serializable" (some 0) with
  accessFlags := 1537
  interfaces := #[]
  cf := some (fileOf pool6 1 #[] #[] 1537 3 #[] #[])
  fields := #[]
  methods := #[]
  instanceTypes := #[]
  staticTypes := #[]
  resolved := Array.replicate 7 none
  statics := none }

def pool7 : Array CpInfo := pool [(1, .class_ 2), (0, u "java/lang/Comparable"), (0, .class_ 4), (0, u "java/lang/Object")] 7

/-- java/lang/Comparable -/
def k7 : Class := { plain "java/lang/Comparable" (some 0) with
  accessFlags := 1537
  interfaces := #[]
  cf := some (fileOf pool7 1 #[] #[] 1537 3 #[] #[])
  fields := #[]
  methods := #[]
  instanceTypes := #[]
  staticTypes := #[]
  resolved := Array.replicate 12 none
  statics := none }

def pool8 : Array CpInfo := pool [(1, .methodref 2 3), (0, .class_ 4), (0, .nameAndType 5 6), (0, u "java/lang/AbstractStringBuilder"), (0, u "<init>"), (0, u "(I)V"), (17, .class_ 26), (1, u "java/lang/StringBuilder"), (0, u "append"), (22, .methodref 2 51), (0, .nameAndType 27 52), (0, u "(C)Ljava/lang/AbstractStringBuilder;"), (92, u "()V"), (10, u "()I"), (129, u "(C)Ljava/lang/StringBuilder;"), (56, .methodref 2 344), (0, .nameAndType 345 156), (0, u "length"), (3, .class_ 350), (0, u "java/lang/Appendable"), (0, .class_ 352), (0, u "java/io/Serializable"), (0, .class_ 354), (0, u "java/lang/Comparable"), (0, .class_ 356), (0, u "java/lang/CharSequence"), (0, u "serialVersionUID"), (0, u "J")] 63

def k8c0 : Code := { maxStack := 2, maxLocals := 1, code := jdk_67_method_1_code, exceptionTable := #[], attributes := #[] }
def k8m0 : Method := { name := "<init>", desc := "()V", sig := { parameters := [], returnType := none }, accessFlags := 1, code := some k8c0 }
def k8c1 : Code := { maxStack := 2, maxLocals := 2, code := jdk_67_method_14_code, exceptionTable := #[], attributes := #[] }
def k8m1 : Method := { name := "append", desc := "(C)Ljava/lang/StringBuilder;", sig := { parameters := [.char], returnType := some (.object "java/lang/StringBuilder") }, accessFlags := 1, code := some k8c1 }
def k8c2 : Code := { maxStack := 1, maxLocals := 1, code := jdk_67_method_93_code, exceptionTable := #[], attributes := #[] }
def k8m2 : Method := { name := "length", desc := "()I", sig := { parameters := [], returnType := some .int }, accessFlags := 4161, code := some k8c2 }
/-- java/lang/StringBuilder -/
def k8 : Class := { plain "java/lang/StringBuilder" (some 5) with
  accessFlags := 49
  interfaces := #[3, 6, 7, 4]
  cf := some (fileOf pool8 24 #[] #[{ accessFlags := 1, nameIndex := 5, descriptorIndex := 145, attributes := #[] }, { accessFlags := 1, nameIndex := 27, descriptorIndex := 286, attributes := #[] }, { accessFlags := 4161, nameIndex := 345, descriptorIndex := 156, attributes := #[] }] 49 2 #[349, 351, 353, 355] #[{ accessFlags := 24, nameIndex := 357, descriptorIndex := 358, attributes := #[] }])
  fields := #[{ name := "serialVersionUID", type := .long, accessFlags := 24, slot := 0, constantValue := 0 }]
  methods := #[k8m0, k8m1, k8m2]
  instanceTypes := #[(.array .byte), .byte, .boolean, .int]
  staticTypes := #[.long]
  resolved := Array.replicate 422 none
  statics := none }

def pool9 : Array CpInfo := pool [(1, .class_ 2), (0, u "java/lang/constant/Constable"), (0, .class_ 4), (0, u "java/lang/Object")] 6

/-- java/lang/constant/Constable -/
def k9 : Class := { plain "java/lang/constant/Constable" (some 0) with
  accessFlags := 1537
  interfaces := #[]
  cf := some (fileOf pool9 1 #[] #[] 1537 3 #[] #[])
  fields := #[]
  methods := #[]
  instanceTypes := #[]
  staticTypes := #[]
  resolved := Array.replicate 11 none
  statics := none }

def pool10 : Array CpInfo := pool [(1, .class_ 2), (0, u "java/lang/constant/ConstantDesc"), (0, .class_ 4), (0, u "java/lang/Object")] 32

/-- java/lang/constant/ConstantDesc -/
def k10 : Class := { plain "java/lang/constant/ConstantDesc" (some 0) with
  accessFlags := 1537
  interfaces := #[]
  cf := some (fileOf pool10 1 #[] #[] 1537 3 #[] #[])
  fields := #[]
  methods := #[]
  instanceTypes := #[]
  staticTypes := #[]
  resolved := Array.replicate 37 none
  statics := none }

def pool11 : Array CpInfo := pool [(2, .class_ 4), (1, u "java/lang/Object"), (0, u "<init>"), (0, u "()V"), (3, .class_ 12), (1, u "java/lang/String"), (0, u "value"), (0, u "[B"), (2, u "coder"), (0, u "B"), (2, u "hash"), (0, u "I"), (2, u "hashIsZero"), (0, u "Z"), (13, u "COMPACT_STRINGS"), (534, .class_ 576), (0, u "java/lang/CharSequence"), (22, u "CASE_INSENSITIVE_ORDER"), (0, u "Ljava/util/Comparator;"), (500, u "serialPersistentFields"), (0, u "[Ljava/io/ObjectStreamField;"), (0, .class_ 1104), (0, u "java/lang/String$CaseInsensitiveComparator"), (1, .class_ 1107), (0, u "java/io/Serializable"), (0, .class_ 1109), (0, u "java/lang/Comparable"), (0, .class_ 1111), (0, u "java/lang/constant/Constable"), (0, .class_ 1113), (0, u "java/lang/constant/ConstantDesc"), (2, u "serialVersionUID"), (0, u "J"), (3, u "REPL"), (0, u "C"), (2, u "LATIN1"), (1, u "UTF16")] 323

def k11m0 : Method := { name := "<init>", desc := "()V", sig := { parameters := [], returnType := none }, accessFlags := 1, code := none }
/-- java/lang/String -/
def k11 : Class := { plain "java/lang/String" (some 0) with
  accessFlags := 49
  interfaces := #[6, 7, 4, 9, 10]
  cf := some (fileOf pool11 10 #[.nestMembers #[1103]] #[{ accessFlags := 1, nameIndex := 5, descriptorIndex := 6, attributes := #[] }] 49 2 #[1106, 1108, 575, 1110, 1112] #[{ accessFlags := 18, nameIndex := 13, descriptorIndex := 14, attributes := #[] }, { accessFlags := 18, nameIndex := 17, descriptorIndex := 18, attributes := #[] }, { accessFlags := 2, nameIndex := 21, descriptorIndex := 22, attributes := #[] }, { accessFlags := 2, nameIndex := 25, descriptorIndex := 26, attributes := #[] }, { accessFlags := 26, nameIndex := 1116, descriptorIndex := 1117, attributes := #[] }, { accessFlags := 24, nameIndex := 40, descriptorIndex := 26, attributes := #[] }, { accessFlags := 26, nameIndex := 1101, descriptorIndex := 1102, attributes := #[] }, { accessFlags := 26, nameIndex := 1121, descriptorIndex := 1122, attributes := #[] }, { accessFlags := 25, nameIndex := 599, descriptorIndex := 600, attributes := #[] }, { accessFlags := 24, nameIndex := 1125, descriptorIndex := 18, attributes := #[] }, { accessFlags := 24, nameIndex := 1127, descriptorIndex := 18, attributes := #[] }])
  fields := #[{ name := "value", type := (.array .byte), accessFlags := 18, slot := 0, constantValue := 0 }, { name := "coder", type := .byte, accessFlags := 18, slot := 1, constantValue := 0 }, { name := "hash", type := .int, accessFlags := 2, slot := 2, constantValue := 0 }, { name := "hashIsZero", type := .boolean, accessFlags := 2, slot := 3, constantValue := 0 }, { name := "serialVersionUID", type := .long, accessFlags := 26, slot := 0, constantValue := 0 }, { name := "COMPACT_STRINGS", type := .boolean, accessFlags := 24, slot := 1, constantValue := 0 }, { name := "serialPersistentFields", type := (.array (.object "java/io/ObjectStreamField")), accessFlags := 26, slot := 2, constantValue := 0 }, { name := "REPL", type := .char, accessFlags := 26, slot := 3, constantValue := 0 }, { name := "CASE_INSENSITIVE_ORDER", type := (.object "java/util/Comparator"), accessFlags := 25, slot := 4, constantValue := 0 }, { name := "LATIN1", type := .byte, accessFlags := 24, slot := 5, constantValue := 0 }, { name := "UTF16", type := .byte, accessFlags := 24, slot := 6, constantValue := 0 }]
  methods := #[k11m0]
  instanceTypes := #[(.array .byte), .byte, .int, .boolean]
  staticTypes := #[.long, .boolean, (.array (.object "java/io/ObjectStreamField")), .char, (.object "java/util/Comparator"), .byte, .byte]
  resolved := Array.replicate 1451 none
  statics := some 0 }

def pool12 : Array CpInfo := pool [(1, .class_ 2), (0, u "com/example/yuanterm/yuanterm/Decimals"), (1, .class_ 6), (1, u "java/lang/Object"), (0, u "<init>"), (0, u "()V"), (9, .class_ 20), (1, u "com/example/yuanterm/yuanterm/Decimals$Digits"), (62, u "(C)Z"), (8, u "DIGITS"), (0, u "I"), (2, u "TOO_MANY_DIGITS"), (0, u "Ljava/lang/String;"), (12, u "isDigit")] 19

def k12m0 : Method := { name := "<init>", desc := "()V", sig := { parameters := [], returnType := none }, accessFlags := 2, code := none }
def k12c1 : Code := { maxStack := 2, maxLocals := 1, code := prog_27_method_9_code, exceptionTable := #[], attributes := #[] }
def k12m1 : Method := { name := "isDigit", desc := "(C)Z", sig := { parameters := [.char], returnType := some .boolean }, accessFlags := 10, code := some k12c1 }
/-- com/example/yuanterm/yuanterm/Decimals -/
def k12 : Class := { plain "com/example/yuanterm/yuanterm/Decimals" (some 0) with
  accessFlags := 48
  interfaces := #[]
  cf := some (fileOf pool12 1 #[.nestMembers #[18]] #[{ accessFlags := 2, nameIndex := 7, descriptorIndex := 8, attributes := #[] }, { accessFlags := 10, nameIndex := 110, descriptorIndex := 83, attributes := #[] }] 48 4 #[] #[{ accessFlags := 26, nameIndex := 92, descriptorIndex := 93, attributes := #[] }, { accessFlags := 24, nameIndex := 96, descriptorIndex := 97, attributes := #[] }])
  fields := #[{ name := "DIGITS", type := .int, accessFlags := 26, slot := 0, constantValue := 0 }, { name := "TOO_MANY_DIGITS", type := (.object "java/lang/String"), accessFlags := 24, slot := 1, constantValue := 0 }]
  methods := #[k12m0, k12m1]
  instanceTypes := #[]
  staticTypes := #[.int, (.object "java/lang/String")]
  resolved := Array.replicate 130 none
  statics := none }

def pool13 : Array CpInfo := pool [(4, .class_ 6), (1, u "java/lang/Object"), (0, u "<init>"), (0, u "()V"), (5, .class_ 16), (1, u "java/lang/StringLatin1"), (73, u "canEncode"), (14, u "(C)Z"), (15, u "$assertionsDisabled"), (0, u "Z"), (98, .class_ 223), (1, u "java/lang/StringLatin1$LinesSpliterator"), (166, .class_ 391), (0, u "java/lang/StringLatin1$CharsSpliterator")] 3

def k13m0 : Method := { name := "<init>", desc := "()V", sig := { parameters := [], returnType := none }, accessFlags := 0, code := none }
def k13c1 : Code := { maxStack := 2, maxLocals := 1, code := jdk_43_method_3_code, exceptionTable := #[], attributes := #[] }
def k13m1 : Method := { name := "canEncode", desc := "(C)Z", sig := { parameters := [.char], returnType := some .boolean }, accessFlags := 9, code := some k13c1 }
/-- java/lang/StringLatin1 -/
def k13 : Class := { plain "java/lang/StringLatin1" (some 0) with
  accessFlags := 48
  interfaces := #[]
  cf := some (fileOf pool13 14 #[.nestMembers #[390, 221]] #[{ accessFlags := 0, nameIndex := 7, descriptorIndex := 8, attributes := #[] }, { accessFlags := 9, nameIndex := 90, descriptorIndex := 105, attributes := #[] }] 48 4 #[] #[{ accessFlags := 4120, nameIndex := 121, descriptorIndex := 122, attributes := #[] }])
  fields := #[{ name := "$assertionsDisabled", type := .boolean, accessFlags := 4120, slot := 0, constantValue := 0 }]
  methods := #[k13m0, k13m1]
  instanceTypes := #[]
  staticTypes := #[.boolean]
  resolved := Array.replicate 395 none
  statics := none }

def pool14 : Array CpInfo := pool [(2, .class_ 4), (1, u "java/lang/Object"), (0, u "<init>"), (0, u "()V"), (17, .class_ 26), (1, u "jdk/internal/util/Preconditions"), (28, .class_ 56), (0, u "jdk/internal/util/Preconditions$4"), (57, .class_ 115), (0, u "jdk/internal/util/Preconditions$1"), (7, u "SIOOBE_FORMATTER"), (0, u "Ljava/util/function/BiFunction;"), (0, .class_ 126), (0, u "jdk/internal/util/Preconditions$2"), (3, u "AIOOBE_FORMATTER"), (0, .class_ 132), (0, u "jdk/internal/util/Preconditions$3"), (3, u "IOOBE_FORMATTER")] 57

def k14m0 : Method := { name := "<init>", desc := "()V", sig := { parameters := [], returnType := none }, accessFlags := 1, code := none }
/-- jdk/internal/util/Preconditions -/
def k14 : Class := { plain "jdk/internal/util/Preconditions" (some 0) with
  accessFlags := 33
  interfaces := #[]
  cf := some (fileOf pool14 24 #[.nestMembers #[55, 131, 125, 114]] #[{ accessFlags := 1, nameIndex := 5, descriptorIndex := 6, attributes := #[] }] 33 2 #[] #[{ accessFlags := 25, nameIndex := 123, descriptorIndex := 124, attributes := #[] }, { accessFlags := 25, nameIndex := 130, descriptorIndex := 124, attributes := #[] }, { accessFlags := 25, nameIndex := 136, descriptorIndex := 124, attributes := #[] }])
  fields := #[{ name := "SIOOBE_FORMATTER", type := (.object "java/util/function/BiFunction"), accessFlags := 25, slot := 0, constantValue := 0 }, { name := "AIOOBE_FORMATTER", type := (.object "java/util/function/BiFunction"), accessFlags := 25, slot := 1, constantValue := 0 }, { name := "IOOBE_FORMATTER", type := (.object "java/util/function/BiFunction"), accessFlags := 25, slot := 2, constantValue := 0 }]
  methods := #[k14m0]
  instanceTypes := #[]
  staticTypes := #[(.object "java/util/function/BiFunction"), (.object "java/util/function/BiFunction"), (.object "java/util/function/BiFunction")]
  resolved := Array.replicate 194 none
  statics := some 1 }

def pool15 : Array CpInfo := pool [(9, u "<init>"), (6, .class_ 18), (1, u "java/lang/Object"), (0, u "()V"), (1, .class_ 23), (1, u "jdk/internal/util/ArraysSupport"), (0, u "LOG2_ARRAY_LONG_INDEX_SCALE"), (0, u "I"), (2, u "U"), (0, u "Ljdk/internal/misc/Unsafe;"), (8, u "BIG_ENDIAN"), (0, u "Z"), (8, u "LOG2_BYTE_BIT_SIZE"), (4, u "LOG2_ARRAY_INT_INDEX_SCALE"), (54, u "JLA"), (0, u "Ljdk/internal/access/JavaLangAccess;"), (11, u "LOG2_ARRAY_BOOLEAN_INDEX_SCALE"), (9, u "LOG2_ARRAY_BYTE_INDEX_SCALE"), (5, u "LOG2_ARRAY_CHAR_INDEX_SCALE"), (5, u "LOG2_ARRAY_SHORT_INDEX_SCALE"), (18, u "LOG2_ARRAY_FLOAT_INDEX_SCALE"), (24, u "LOG2_ARRAY_DOUBLE_INDEX_SCALE"), (89, u "T_BOOLEAN"), (2, u "T_CHAR"), (1, u "T_FLOAT"), (1, u "T_DOUBLE"), (1, u "T_BYTE"), (1, u "T_SHORT"), (1, u "T_INT"), (1, u "T_LONG"), (1, u "SOFT_MAX_ARRAY_LENGTH")] 83

def k15m0 : Method := { name := "<init>", desc := "()V", sig := { parameters := [], returnType := none }, accessFlags := 2, code := none }
/-- jdk/internal/util/ArraysSupport -/
def k15 : Class := { plain "jdk/internal/util/ArraysSupport" (some 0) with
  accessFlags := 33
  interfaces := #[]
  cf := some (fileOf pool15 21 #[] #[{ accessFlags := 2, nameIndex := 9, descriptorIndex := 19, attributes := #[] }] 33 16 #[] #[{ accessFlags := 24, nameIndex := 28, descriptorIndex := 29, attributes := #[] }, { accessFlags := 26, nameIndex := 38, descriptorIndex := 39, attributes := #[] }, { accessFlags := 25, nameIndex := 121, descriptorIndex := 25, attributes := #[] }, { accessFlags := 25, nameIndex := 131, descriptorIndex := 25, attributes := #[] }, { accessFlags := 25, nameIndex := 137, descriptorIndex := 25, attributes := #[] }, { accessFlags := 25, nameIndex := 143, descriptorIndex := 25, attributes := #[] }, { accessFlags := 25, nameIndex := 53, descriptorIndex := 25, attributes := #[] }, { accessFlags := 25, nameIndex := 24, descriptorIndex := 25, attributes := #[] }, { accessFlags := 25, nameIndex := 162, descriptorIndex := 25, attributes := #[] }, { accessFlags := 25, nameIndex := 187, descriptorIndex := 25, attributes := #[] }, { accessFlags := 26, nameIndex := 48, descriptorIndex := 25, attributes := #[] }, { accessFlags := 25, nameIndex := 277, descriptorIndex := 25, attributes := #[] }, { accessFlags := 25, nameIndex := 280, descriptorIndex := 25, attributes := #[] }, { accessFlags := 25, nameIndex := 282, descriptorIndex := 25, attributes := #[] }, { accessFlags := 25, nameIndex := 284, descriptorIndex := 25, attributes := #[] }, { accessFlags := 25, nameIndex := 286, descriptorIndex := 25, attributes := #[] }, { accessFlags := 25, nameIndex := 288, descriptorIndex := 25, attributes := #[] }, { accessFlags := 25, nameIndex := 290, descriptorIndex := 25, attributes := #[] }, { accessFlags := 25, nameIndex := 292, descriptorIndex := 25, attributes := #[] }, { accessFlags := 26, nameIndex := 108, descriptorIndex := 109, attributes := #[] }, { accessFlags := 25, nameIndex := 294, descriptorIndex := 25, attributes := #[] }])
  fields := #[{ name := "U", type := (.object "jdk/internal/misc/Unsafe"), accessFlags := 24, slot := 0, constantValue := 0 }, { name := "BIG_ENDIAN", type := .boolean, accessFlags := 26, slot := 1, constantValue := 0 }, { name := "LOG2_ARRAY_BOOLEAN_INDEX_SCALE", type := .int, accessFlags := 25, slot := 2, constantValue := 0 }, { name := "LOG2_ARRAY_BYTE_INDEX_SCALE", type := .int, accessFlags := 25, slot := 3, constantValue := 0 }, { name := "LOG2_ARRAY_CHAR_INDEX_SCALE", type := .int, accessFlags := 25, slot := 4, constantValue := 0 }, { name := "LOG2_ARRAY_SHORT_INDEX_SCALE", type := .int, accessFlags := 25, slot := 5, constantValue := 0 }, { name := "LOG2_ARRAY_INT_INDEX_SCALE", type := .int, accessFlags := 25, slot := 6, constantValue := 0 }, { name := "LOG2_ARRAY_LONG_INDEX_SCALE", type := .int, accessFlags := 25, slot := 7, constantValue := 0 }, { name := "LOG2_ARRAY_FLOAT_INDEX_SCALE", type := .int, accessFlags := 25, slot := 8, constantValue := 0 }, { name := "LOG2_ARRAY_DOUBLE_INDEX_SCALE", type := .int, accessFlags := 25, slot := 9, constantValue := 0 }, { name := "LOG2_BYTE_BIT_SIZE", type := .int, accessFlags := 26, slot := 10, constantValue := 0 }, { name := "T_BOOLEAN", type := .int, accessFlags := 25, slot := 11, constantValue := 0 }, { name := "T_CHAR", type := .int, accessFlags := 25, slot := 12, constantValue := 0 }, { name := "T_FLOAT", type := .int, accessFlags := 25, slot := 13, constantValue := 0 }, { name := "T_DOUBLE", type := .int, accessFlags := 25, slot := 14, constantValue := 0 }, { name := "T_BYTE", type := .int, accessFlags := 25, slot := 15, constantValue := 0 }, { name := "T_SHORT", type := .int, accessFlags := 25, slot := 16, constantValue := 0 }, { name := "T_INT", type := .int, accessFlags := 25, slot := 17, constantValue := 0 }, { name := "T_LONG", type := .int, accessFlags := 25, slot := 18, constantValue := 0 }, { name := "JLA", type := (.object "jdk/internal/access/JavaLangAccess"), accessFlags := 26, slot := 19, constantValue := 0 }, { name := "SOFT_MAX_ARRAY_LENGTH", type := .int, accessFlags := 25, slot := 20, constantValue := 0 }]
  methods := #[k15m0]
  instanceTypes := #[]
  staticTypes := #[(.object "jdk/internal/misc/Unsafe"), .boolean, .int, .int, .int, .int, .int, .int, .int, .int, .int, .int, .int, .int, .int, .int, .int, .int, .int, (.object "jdk/internal/access/JavaLangAccess"), .int]
  resolved := Array.replicate 378 none
  statics := none }

def pool16 : Array CpInfo := pool [(1, u "java/lang/Cloneable"), (0, .class_ 1), (0, u "java/lang/Object"), (0, .class_ 3)] 3

/-- java/lang/Cloneable -/
def k16 : Class := { plain "java/lang/Cloneable" (some 0) with
  accessFlags := 1537
  interfaces := #[]
  cf := some (fileOf pool16 2 #[] #[] 1537 4 #[] #[])
  fields := #[]
  methods := #[]
  instanceTypes := #[]
  staticTypes := #[]
  resolved := Array.replicate 8 none
  statics := none }

/-- the primitive byte -/
def k17 : Class := { plain "byte" none with kind := .primitive 'B', accessFlags := 0x411 }
/-- [B -/
def k18 : Class := { plain "[B" (some 0) with kind := .array 17 .byte, interfaces := #[16, 6], accessFlags := 1041 }

/-- the primitive char -/
def k19 : Class := { plain "char" none with kind := .primitive 'C', accessFlags := 0x411 }
/-- [C -/
def k20 : Class := { plain "[C" (some 0) with kind := .array 19 .char, interfaces := #[16, 6], accessFlags := 1041 }

/-- the primitive int -/
def k21 : Class := { plain "int" none with kind := .primitive 'I', accessFlags := 0x411 }
/-- [I -/
def k22 : Class := { plain "[I" (some 0) with kind := .array 21 .int, interfaces := #[16, 6], accessFlags := 1041 }

def heap : Heap := #[{ cls := 11, slots := #[.long 0, .int 1, .null, .int 0, .null, .int 0, .int 0], vm := .statics 11 },
  { cls := 14, slots := #[.null, .null, .null], vm := .statics 14 }]
def classes : Array Class := #[k0, k1, k2, k3, k4, k5, k6, k7, k8, k9, k10, k11, k12, k13, k14, k15, k16, k17, k18, k19, k20, k21, k22]
def interned : List (Array UInt16 × Addr) := []
def slotsUsed : Nat := 10
def theMethod : MethodId := ⟨1, 1⟩
def args0 : Array Value := #[.int 5, .int 5, .long 5]
def aboutOver (below : List Frame) : State where
  vm := { classes := classes, interned := interned.toArray }
  heap := heap
  slotsUsed := slotsUsed
  threads := #[{ frames := .invoking theMethod args0 :: below }]
def below0 : List Frame := [.native { method := ⟨0, 0⟩, args := #[] }]
def about1 : State := aboutOver below0
def p0 : Program := .bare "" "" ""
def e0 : Env := launch0.env 0 0 0
theorem w_frames : about1.frames = Frame.invoking theMethod args0 :: below0 := rfl
set_option maxRecDepth 65536 in
theorem w_args : argsFit about1.vm theMethod args0 = true := by decide +kernel
set_option maxRecDepth 65536 in
theorem w_heap : heapFits about1 = true := by decide +kernel
set_option maxRecDepth 65536 in
theorem w_runnable : about1.curStatus? = some .runnable := by decide +kernel
set_option maxRecDepth 65536 in
theorem w_alone : about1.alone = true := by decide +kernel
set_option maxRecDepth 65536 in
theorem w_named : about1.methodNamed? x = some theMethod := by decide +kernel
set_option maxRecDepth 65536 in
theorem w_hears : about1.hears theMethod below0 = true := by decide +kernel
set_option maxRecDepth 65536 in
theorem w_ripe : about1.ripe theMethod args0 below0 = true := by decide +kernel
theorem w_running : about1.status = .running := rfl
set_option maxRecDepth 65536 in
theorem w_room : about1.hasRoom e0.platform room_1 = true :=
  launch0.hasRoom_least _ room_1 (by decide +kernel) (by decide +kernel) (by decide +kernel) (by decide +kernel) (by decide +kernel) (by decide +kernel)
theorem allAtoms_all (ts : List Jvm.Cond) (a : Array Jvm.Value) (st : Jvm.State) : (allAtoms ts).before a st = ts.all (fun c => c.before a st) := by
  induction ts with
  | nil => rfl
  | cons c t ih =>
    show (Jvm.Cond.and c (allAtoms t)).before a st = _
    rw [Jvm.Cond.before_and, ih, List.all_cons]
def words1 : List Jvm.Cond := Jvm.Cond.code x code maxLocals ret :: tables_1
/-- a 'code' word, met by the world's own term for the bytes: nothing is compared byte by byte -/
theorem code_word {y : MethodName} {bytes : ByteArray} {mx : Nat} {rt : Option FieldType} {a : Array Value} {s : State} {m : MethodId} {meth : Method} {c : Code} (h1 : s.methodNamed? y = some m) (h2 : s.vm.method? m = some meth) (h3 : meth.code = some c) (h4 : c.code = bytes)
    (h5 : (c.maxLocals == mx && c.exceptionTable.isEmpty && decide (c.maxStack ≤ mostOperands) && decide (meth.sig.returnType = rt) && !meth.locks && decide (parseMethodDescriptor y.desc = some meth.sig)) = true) : (Jvm.Cond.code y bytes mx rt).before a s = true := by
  simp only [Bool.and_eq_true, beq_iff_eq, Bool.not_eq_true', decide_eq_true_eq] at h5
  obtain ⟨⟨⟨⟨⟨g1, g2⟩, g3⟩, g4⟩, g5⟩, g6⟩ := h5
  simp [Cond.before, Cond.holds, Cond.value, h1, h2, h3, h4, g1, g2, g3, g4, g5, g6]
def isCode : Jvm.Cond → Bool
  | .code _ _ _ _ => true
  | _ => false
theorem all_split {L : List Jvm.Cond} {P : Jvm.Cond → Bool} (h1 : L.all (fun c => isCode c || P c) = true) (h2 : ∀ c ∈ L.filter isCode, P c = true) : L.all P = true := by
  refine List.all_eq_true.mpr fun c hc => ?_
  have h := List.all_eq_true.mp h1 c hc
  rcases Bool.eq_false_or_eq_true (isCode c) with hi | hi
  · exact h2 c (List.mem_filter.mpr ⟨hc, hi⟩)
  · simpa [hi] using h
set_option maxRecDepth 65536 in
theorem w_c0 : (Jvm.Cond.code x code maxLocals ret).before args0 about1 = true := code_word (m := ⟨1, 1⟩) (meth := k1m1) (c := k1c1) (by decide +kernel) rfl rfl rfl (by decide +kernel)
set_option maxRecDepth 65536 in
theorem w_c1 : (Jvm.Cond.code ({ cls := "com/example/yuanterm/yuanterm/DigitsIsDecimalPinLaw", name := "pick", desc := "(IJI)C" } : Jvm.MethodName) method_3_code (6 : Nat) (Option.some Jvm.ClassFile.FieldType.char)).before args0 about1 = true := code_word (m := ⟨1, 2⟩) (meth := k1m2) (c := k1c2) (by decide +kernel) rfl rfl rfl (by decide +kernel)
set_option maxRecDepth 65536 in
theorem w_c2 : (Jvm.Cond.code ({ cls := "com/example/yuanterm/yuanterm/Decimals$Digits", name := "<init>", desc := "(I)V" } : Jvm.MethodName) prog_28_method_1_code (2 : Nat) (Option.none : Option Jvm.ClassFile.FieldType)).before args0 about1 = true := code_word (m := ⟨2, 0⟩) (meth := k2m0) (c := k2c0) (by decide +kernel) rfl rfl rfl (by decide +kernel)
set_option maxRecDepth 65536 in
theorem w_c3 : (Jvm.Cond.code ({ cls := "java/lang/Object", name := "<init>", desc := "()V" } : Jvm.MethodName) object_method_1_code (1 : Nat) (Option.none : Option Jvm.ClassFile.FieldType)).before args0 about1 = true := code_word (m := ⟨0, 0⟩) (meth := k0m0) (c := k0c0) (by decide +kernel) rfl rfl rfl (by decide +kernel)
set_option maxRecDepth 65536 in
theorem w_c4 : (Jvm.Cond.code ({ cls := "java/lang/StringBuilder", name := "<init>", desc := "()V" } : Jvm.MethodName) jdk_67_method_1_code (1 : Nat) (Option.none : Option Jvm.ClassFile.FieldType)).before args0 about1 = true := code_word (m := ⟨8, 0⟩) (meth := k8m0) (c := k8c0) (by decide +kernel) rfl rfl rfl (by decide +kernel)
set_option maxRecDepth 65536 in
theorem w_c5 : (Jvm.Cond.code ({ cls := "java/lang/AbstractStringBuilder", name := "<init>", desc := "(I)V" } : Jvm.MethodName) jdk_68_method_2_code (2 : Nat) (Option.none : Option Jvm.ClassFile.FieldType)).before args0 about1 = true := code_word (m := ⟨5, 1⟩) (meth := k5m1) (c := k5c1) (by decide +kernel) rfl rfl rfl (by decide +kernel)
set_option maxRecDepth 65536 in
theorem w_c6 : (Jvm.Cond.code ({ cls := "com/example/yuanterm/yuanterm/Decimals$Digits", name := "isDecimal", desc := "()Z" } : Jvm.MethodName) prog_28_method_3_code (1 : Nat) (Option.some Jvm.ClassFile.FieldType.boolean)).before args0 about1 = true := code_word (m := ⟨2, 2⟩) (meth := k2m2) (c := k2c2) (by decide +kernel) rfl rfl rfl (by decide +kernel)
set_option maxRecDepth 65536 in
theorem w_c7 : (Jvm.Cond.code ({ cls := "com/example/yuanterm/yuanterm/DigitsIsDecimalPinLaw", name := "reference", desc := "([CI)Z" } : Jvm.MethodName) method_9_code (9 : Nat) (Option.some Jvm.ClassFile.FieldType.boolean)).before args0 about1 = true := code_word (m := ⟨1, 8⟩) (meth := k1m8) (c := k1c8) (by decide +kernel) rfl rfl rfl (by decide +kernel)
set_option maxRecDepth 65536 in
theorem w_c8 : (Jvm.Cond.code ({ cls := "com/example/yuanterm/yuanterm/Decimals$Digits", name := "add", desc := "(C)Z" } : Jvm.MethodName) prog_28_method_2_code (5 : Nat) (Option.some Jvm.ClassFile.FieldType.boolean)).before args0 about1 = true := code_word (m := ⟨2, 1⟩) (meth := k2m1) (c := k2c1) (by decide +kernel) rfl rfl rfl (by decide +kernel)
set_option maxRecDepth 65536 in
theorem w_c9 : (Jvm.Cond.code ({ cls := "com/example/yuanterm/yuanterm/Decimals", name := "isDigit", desc := "(C)Z" } : Jvm.MethodName) prog_27_method_9_code (1 : Nat) (Option.some Jvm.ClassFile.FieldType.boolean)).before args0 about1 = true := code_word (m := ⟨12, 1⟩) (meth := k12m1) (c := k12c1) (by decide +kernel) rfl rfl rfl (by decide +kernel)
set_option maxRecDepth 65536 in
theorem w_c10 : (Jvm.Cond.code ({ cls := "java/lang/StringBuilder", name := "length", desc := "()I" } : Jvm.MethodName) jdk_67_method_93_code (1 : Nat) (Option.some Jvm.ClassFile.FieldType.int)).before args0 about1 = true := code_word (m := ⟨8, 2⟩) (meth := k8m2) (c := k8c2) (by decide +kernel) rfl rfl rfl (by decide +kernel)
set_option maxRecDepth 65536 in
theorem w_c11 : (Jvm.Cond.code ({ cls := "java/lang/AbstractStringBuilder", name := "length", desc := "()I" } : Jvm.MethodName) jdk_68_method_6_code (1 : Nat) (Option.some Jvm.ClassFile.FieldType.int)).before args0 about1 = true := code_word (m := ⟨5, 2⟩) (meth := k5m2) (c := k5c2) (by decide +kernel) rfl rfl rfl (by decide +kernel)
set_option maxRecDepth 65536 in
theorem w_c12 : (Jvm.Cond.code ({ cls := "com/example/yuanterm/yuanterm/DigitsIsDecimalPinLaw", name := "count", desc := "([CIII)I" } : Jvm.MethodName) method_7_code (4 : Nat) (Option.some Jvm.ClassFile.FieldType.int)).before args0 about1 = true := code_word (m := ⟨1, 6⟩) (meth := k1m6) (c := k1c6) (by decide +kernel) rfl rfl rfl (by decide +kernel)
set_option maxRecDepth 65536 in
theorem w_c13 : (Jvm.Cond.code ({ cls := "com/example/yuanterm/yuanterm/DigitsIsDecimalPinLaw", name := "at", desc := "([CIIII)I" } : Jvm.MethodName) method_6_code (5 : Nat) (Option.some Jvm.ClassFile.FieldType.int)).before args0 about1 = true := code_word (m := ⟨1, 5⟩) (meth := k1m5) (c := k1c5) (by decide +kernel) rfl rfl rfl (by decide +kernel)
set_option maxRecDepth 65536 in
theorem w_c14 : (Jvm.Cond.code ({ cls := "com/example/yuanterm/yuanterm/DigitsIsDecimalPinLaw", name := "kind", desc := "(CI)Z" } : Jvm.MethodName) method_5_code (2 : Nat) (Option.some Jvm.ClassFile.FieldType.boolean)).before args0 about1 = true := code_word (m := ⟨1, 4⟩) (meth := k1m4) (c := k1c4) (by decide +kernel) rfl rfl rfl (by decide +kernel)
set_option maxRecDepth 65536 in
theorem w_c15 : (Jvm.Cond.code ({ cls := "com/example/yuanterm/yuanterm/DigitsIsDecimalPinLaw", name := "digit", desc := "(C)Z" } : Jvm.MethodName) method_4_code (1 : Nat) (Option.some Jvm.ClassFile.FieldType.boolean)).before args0 about1 = true := code_word (m := ⟨1, 3⟩) (meth := k1m3) (c := k1c3) (by decide +kernel) rfl rfl rfl (by decide +kernel)
set_option maxRecDepth 65536 in
theorem w_c16 : (Jvm.Cond.code ({ cls := "com/example/yuanterm/yuanterm/Decimals$Digits", name := "significant", desc := "(C)V" } : Jvm.MethodName) prog_28_method_8_code (2 : Nat) (Option.none : Option Jvm.ClassFile.FieldType)).before args0 about1 = true := code_word (m := ⟨2, 3⟩) (meth := k2m3) (c := k2c3) (by decide +kernel) rfl rfl rfl (by decide +kernel)
set_option maxRecDepth 65536 in
theorem w_c17 : (Jvm.Cond.code ({ cls := "java/lang/StringBuilder", name := "append", desc := "(C)Ljava/lang/StringBuilder;" } : Jvm.MethodName) jdk_67_method_14_code (2 : Nat) (Option.some (Jvm.ClassFile.FieldType.object "java/lang/StringBuilder"))).before args0 about1 = true := code_word (m := ⟨8, 1⟩) (meth := k8m1) (c := k8c1) (by decide +kernel) rfl rfl rfl (by decide +kernel)
set_option maxRecDepth 65536 in
theorem w_c18 : (Jvm.Cond.code ({ cls := "java/lang/AbstractStringBuilder", name := "append", desc := "(C)Ljava/lang/AbstractStringBuilder;" } : Jvm.MethodName) jdk_68_method_31_code (2 : Nat) (Option.some (Jvm.ClassFile.FieldType.object "java/lang/AbstractStringBuilder"))).before args0 about1 = true := code_word (m := ⟨5, 4⟩) (meth := k5m4) (c := k5c4) (by decide +kernel) rfl rfl rfl (by decide +kernel)
set_option maxRecDepth 65536 in
theorem w_c19 : (Jvm.Cond.code ({ cls := "java/lang/AbstractStringBuilder", name := "ensureCapacityInternal", desc := "(I)V" } : Jvm.MethodName) jdk_68_method_9_code (3 : Nat) (Option.none : Option Jvm.ClassFile.FieldType)).before args0 about1 = true := code_word (m := ⟨5, 3⟩) (meth := k5m3) (c := k5c3) (by decide +kernel) rfl rfl rfl (by decide +kernel)
set_option maxRecDepth 65536 in
theorem w_c20 : (Jvm.Cond.code ({ cls := "java/lang/AbstractStringBuilder", name := "isLatin1", desc := "()Z" } : Jvm.MethodName) jdk_68_method_68_code (1 : Nat) (Option.some Jvm.ClassFile.FieldType.boolean)).before args0 about1 = true := code_word (m := ⟨5, 5⟩) (meth := k5m5) (c := k5c5) (by decide +kernel) rfl rfl rfl (by decide +kernel)
set_option maxRecDepth 65536 in
theorem w_c21 : (Jvm.Cond.code ({ cls := "java/lang/StringLatin1", name := "canEncode", desc := "(C)Z" } : Jvm.MethodName) jdk_43_method_3_code (1 : Nat) (Option.some Jvm.ClassFile.FieldType.boolean)).before args0 about1 = true := code_word (m := ⟨13, 1⟩) (meth := k13m1) (c := k13c1) (by decide +kernel) rfl rfl rfl (by decide +kernel)
set_option maxRecDepth 65536 in
theorem w_c22 : (Jvm.Cond.code ({ cls := "com/example/yuanterm/yuanterm/DigitsIsDecimalPinLaw", name := "pos", desc := "([CIII)I" } : Jvm.MethodName) method_8_code (4 : Nat) (Option.some Jvm.ClassFile.FieldType.int)).before args0 about1 = true := code_word (m := ⟨1, 7⟩) (meth := k1m7) (c := k1c7) (by decide +kernel) rfl rfl rfl (by decide +kernel)
def codes1 : List Jvm.Cond := [Jvm.Cond.code x code maxLocals ret, Jvm.Cond.code ({ cls := "com/example/yuanterm/yuanterm/DigitsIsDecimalPinLaw", name := "pick", desc := "(IJI)C" } : Jvm.MethodName) method_3_code (6 : Nat) (Option.some Jvm.ClassFile.FieldType.char), Jvm.Cond.code ({ cls := "com/example/yuanterm/yuanterm/Decimals$Digits", name := "<init>", desc := "(I)V" } : Jvm.MethodName) prog_28_method_1_code (2 : Nat) (Option.none : Option Jvm.ClassFile.FieldType), Jvm.Cond.code ({ cls := "java/lang/Object", name := "<init>", desc := "()V" } : Jvm.MethodName) object_method_1_code (1 : Nat) (Option.none : Option Jvm.ClassFile.FieldType), Jvm.Cond.code ({ cls := "java/lang/StringBuilder", name := "<init>", desc := "()V" } : Jvm.MethodName) jdk_67_method_1_code (1 : Nat) (Option.none : Option Jvm.ClassFile.FieldType), Jvm.Cond.code ({ cls := "java/lang/AbstractStringBuilder", name := "<init>", desc := "(I)V" } : Jvm.MethodName) jdk_68_method_2_code (2 : Nat) (Option.none : Option Jvm.ClassFile.FieldType), Jvm.Cond.code ({ cls := "com/example/yuanterm/yuanterm/Decimals$Digits", name := "isDecimal", desc := "()Z" } : Jvm.MethodName) prog_28_method_3_code (1 : Nat) (Option.some Jvm.ClassFile.FieldType.boolean), Jvm.Cond.code ({ cls := "com/example/yuanterm/yuanterm/DigitsIsDecimalPinLaw", name := "reference", desc := "([CI)Z" } : Jvm.MethodName) method_9_code (9 : Nat) (Option.some Jvm.ClassFile.FieldType.boolean), Jvm.Cond.code ({ cls := "com/example/yuanterm/yuanterm/Decimals$Digits", name := "add", desc := "(C)Z" } : Jvm.MethodName) prog_28_method_2_code (5 : Nat) (Option.some Jvm.ClassFile.FieldType.boolean), Jvm.Cond.code ({ cls := "com/example/yuanterm/yuanterm/Decimals", name := "isDigit", desc := "(C)Z" } : Jvm.MethodName) prog_27_method_9_code (1 : Nat) (Option.some Jvm.ClassFile.FieldType.boolean), Jvm.Cond.code ({ cls := "java/lang/StringBuilder", name := "length", desc := "()I" } : Jvm.MethodName) jdk_67_method_93_code (1 : Nat) (Option.some Jvm.ClassFile.FieldType.int), Jvm.Cond.code ({ cls := "java/lang/AbstractStringBuilder", name := "length", desc := "()I" } : Jvm.MethodName) jdk_68_method_6_code (1 : Nat) (Option.some Jvm.ClassFile.FieldType.int), Jvm.Cond.code ({ cls := "com/example/yuanterm/yuanterm/DigitsIsDecimalPinLaw", name := "count", desc := "([CIII)I" } : Jvm.MethodName) method_7_code (4 : Nat) (Option.some Jvm.ClassFile.FieldType.int), Jvm.Cond.code ({ cls := "com/example/yuanterm/yuanterm/DigitsIsDecimalPinLaw", name := "at", desc := "([CIIII)I" } : Jvm.MethodName) method_6_code (5 : Nat) (Option.some Jvm.ClassFile.FieldType.int), Jvm.Cond.code ({ cls := "com/example/yuanterm/yuanterm/DigitsIsDecimalPinLaw", name := "kind", desc := "(CI)Z" } : Jvm.MethodName) method_5_code (2 : Nat) (Option.some Jvm.ClassFile.FieldType.boolean), Jvm.Cond.code ({ cls := "com/example/yuanterm/yuanterm/DigitsIsDecimalPinLaw", name := "digit", desc := "(C)Z" } : Jvm.MethodName) method_4_code (1 : Nat) (Option.some Jvm.ClassFile.FieldType.boolean), Jvm.Cond.code ({ cls := "com/example/yuanterm/yuanterm/Decimals$Digits", name := "significant", desc := "(C)V" } : Jvm.MethodName) prog_28_method_8_code (2 : Nat) (Option.none : Option Jvm.ClassFile.FieldType), Jvm.Cond.code ({ cls := "java/lang/StringBuilder", name := "append", desc := "(C)Ljava/lang/StringBuilder;" } : Jvm.MethodName) jdk_67_method_14_code (2 : Nat) (Option.some (Jvm.ClassFile.FieldType.object "java/lang/StringBuilder")), Jvm.Cond.code ({ cls := "java/lang/AbstractStringBuilder", name := "append", desc := "(C)Ljava/lang/AbstractStringBuilder;" } : Jvm.MethodName) jdk_68_method_31_code (2 : Nat) (Option.some (Jvm.ClassFile.FieldType.object "java/lang/AbstractStringBuilder")), Jvm.Cond.code ({ cls := "java/lang/AbstractStringBuilder", name := "ensureCapacityInternal", desc := "(I)V" } : Jvm.MethodName) jdk_68_method_9_code (3 : Nat) (Option.none : Option Jvm.ClassFile.FieldType), Jvm.Cond.code ({ cls := "java/lang/AbstractStringBuilder", name := "isLatin1", desc := "()Z" } : Jvm.MethodName) jdk_68_method_68_code (1 : Nat) (Option.some Jvm.ClassFile.FieldType.boolean), Jvm.Cond.code ({ cls := "java/lang/StringLatin1", name := "canEncode", desc := "(C)Z" } : Jvm.MethodName) jdk_43_method_3_code (1 : Nat) (Option.some Jvm.ClassFile.FieldType.boolean), Jvm.Cond.code ({ cls := "com/example/yuanterm/yuanterm/DigitsIsDecimalPinLaw", name := "pos", desc := "([CIII)I" } : Jvm.MethodName) method_8_code (4 : Nat) (Option.some Jvm.ClassFile.FieldType.int)]
set_option maxRecDepth 65536 in
theorem codes_eq : words1.filter isCode = codes1 := rfl
theorem w_codes : ∀ c ∈ words1.filter isCode, c.before args0 about1 = true := by
  rw [codes_eq]
  intro c hc
  simp only [codes1, List.mem_cons, List.not_mem_nil, or_false] at hc
  rcases hc with rfl | rfl | rfl | rfl | rfl | rfl | rfl | rfl | rfl | rfl | rfl | rfl | rfl | rfl | rfl | rfl | rfl | rfl | rfl | rfl | rfl | rfl | rfl
  · exact w_c0
  · exact w_c1
  · exact w_c2
  · exact w_c3
  · exact w_c4
  · exact w_c5
  · exact w_c6
  · exact w_c7
  · exact w_c8
  · exact w_c9
  · exact w_c10
  · exact w_c11
  · exact w_c12
  · exact w_c13
  · exact w_c14
  · exact w_c15
  · exact w_c16
  · exact w_c17
  · exact w_c18
  · exact w_c19
  · exact w_c20
  · exact w_c21
  · exact w_c22
set_option maxRecDepth 65536 in
theorem w_t1 : (words1.take 24).all (fun c => isCode c || c.before args0 about1) = true := by decide +kernel
set_option maxRecDepth 65536 in
theorem w_t2 : ((words1.drop 24).take 24).all (fun c => isCode c || c.before args0 about1) = true := by decide +kernel
set_option maxRecDepth 65536 in
theorem w_t3 : (((words1.drop 24).drop 24).take 24).all (fun c => isCode c || c.before args0 about1) = true := by decide +kernel
set_option maxRecDepth 65536 in
theorem w_t4 : ((((words1.drop 24).drop 24).drop 24).take 24).all (fun c => isCode c || c.before args0 about1) = true := by decide +kernel
set_option maxRecDepth 65536 in
theorem w_t5 : (((((words1.drop 24).drop 24).drop 24).drop 24).take 24).all (fun c => isCode c || c.before args0 about1) = true := by decide +kernel
set_option maxRecDepth 65536 in
theorem w_t6 : (((((words1.drop 24).drop 24).drop 24).drop 24).drop 24).all (fun c => isCode c || c.before args0 about1) = true := by decide +kernel
theorem w_tables : (allAtoms (Jvm.Cond.code x code maxLocals ret :: tables_1)).before args0 about1 = true := by
  rw [allAtoms_all]
  show words1.all (fun c => c.before args0 about1) = true
  refine all_split ?_ w_codes
  rw [← List.take_append_drop 24 words1, List.all_append, w_t1, ← List.take_append_drop 24 (words1.drop 24), List.all_append, w_t2, ← List.take_append_drop 24 ((words1.drop 24).drop 24), List.all_append, w_t3, ← List.take_append_drop 24 (((words1.drop 24).drop 24).drop 24), List.all_append, w_t4, ← List.take_append_drop 24 ((((words1.drop 24).drop 24).drop 24).drop 24), List.all_append, w_t5, w_t6]
  rfl
set_option maxRecDepth 65536 in
theorem w_rest : rest_1_c.before args0 about1 = true := by decide +kernel
set_option maxRecDepth 65536 in
theorem w_case : (Jvm.Cond.and given_1 narrow_1).before args0 about1 = true := by decide +kernel
theorem w_applies : (headSpec (Jvm.Cond.code x code maxLocals ret :: tables_1) room_1).applies x e0.platform about1 = true :=
  (Spec.applies_iff w_frames).mpr ⟨w_running, w_runnable, w_alone, w_named, w_hears, w_ripe, w_room, w_tables⟩
theorem atStart : AtStart classFile x code maxLocals ret World_1 tables_1 room_1 Calls_1 rest_1 Pre_1 launch0 p0 e0 about1 theMethod args0 below0 :=
  ⟨lists_1, trivial, launch0.admits_env _ _ _, launch0.least_env, fairChoices_fair.cas, fairChoices_fair.clock, w_frames, w_args, w_heap, w_applies, trivial, w_rest, w_case⟩
end start1
theorem witness_1 : WitnessClaimed_1 := ⟨start1.p0, start1.e0, start1.about1, start1.theMethod, start1.args0, start1.below0, start1.atStart⟩
end Jvm.Pilot.@@N@@
