import JvmDerived
import JvmDerived.Pilot.@@N@@Statement
import JvmDerived.Pilot.@@N@@Code
set_option linter.unusedVariables false
set_option linter.unusedSimpArgs false
namespace Jvm.Pilot.@@N@@
open Jvm Jvm.ClassFile Sem Op Lib Jvm.Free Jvm.Stand Jvm.LawKit Jvm.RoadKit Bundle Jvm.Pilot.@@N@@.Jvm.D
/-! ## own kit, part 0: words, small numbers -/
theorem wd {a0 : Array Value} {Z : State} (hw : ∀ d ∈ tables_1, d.before a0 Z = true) (k : Nat) {d : Jvm.Cond} (h : tables_1[k]? = some d) : d.before a0 Z = true := hw d (List.mem_of_getElem? h)
theorem own_hn {fs : List (String × String × String × Value)} {nm : List String} {j : Nat} {f : String × String × String × Value} (hj : fs[j]? = some f) (h : fs.map (fun z => z.2.1) = nm) (hN : nm.Nodup) : ∀ i f', fs[i]? = some f' → i ≠ j → f'.2.1 ≠ f.2.1 := fun i f' hi q e => by
  subst h
  have a1 : (fs.map (fun z => z.2.1))[i]? = some f'.2.1 := by rw [List.getElem?_map, hi]; rfl
  have a2 : (fs.map (fun z => z.2.1))[j]? = some f.2.1 := by rw [List.getElem?_map, hj]; rfl
  obtain ⟨l1, e1⟩ := List.getElem?_eq_some_iff.mp a1
  obtain ⟨l2, e2⟩ := List.getElem?_eq_some_iff.mp a2
  exact q ((List.getElem_inj hN).mp (e1.trans (e.trans e2.symm)))
theorem own_fld {args : Array Value} {s : State} {t b : Term} {C n d : String} {v : Value} {a : Addr} (ev : t.eval args s none [] s = some (.ref a)) (hb : b.eval args s none [] s = some v) (h : (Jvm.Cond.eq (Term.field t C n d) b).value args s none s [] = some true) : Fld s s.heap a C n d v := by
  have e := fld_at (C := C) (n := n) (dd := d) ev
  cases hf : s.fieldOf? a C n d with
  | none => rw [hf] at e; simp [Cond.value, e] at h
  | some w =>
    rw [hf] at e
    have : w = v := by
      cases w <;> cases v <;> simp [Cond.value, e, hb] at h ⊢ <;> exact h
    subst this
    exact Fld.start hf
theorem own_rem (x k : Int32) (hk : 0 < k.toInt) : 0 ≤ ((x &&& 2147483647) % k).toInt ∧ ((x &&& 2147483647) % k).toInt < k.toInt := by
  have h := (c_andS x 2147483647).2.2 (by decide)
  rw [Int32.toInt_mod]
  exact ⟨Int.tmod_nonneg _ h, Int.tmod_lt_of_pos _ hk⟩
theorem own_mask (x m : Int32) (hm : 0 ≤ m.toInt) : 0 ≤ (x &&& m).toInt ∧ (x &&& m).toInt ≤ m.toInt := by
  have h1 := (c_andS x m).2.2 hm
  refine ⟨h1, ?_⟩
  have q : (x &&& m).toBitVec.toNat ≤ m.toBitVec.toNat := by rw [Int32.toBitVec_and, BitVec.toNat_and]; exact Nat.and_le_right
  change 0 ≤ m.toBitVec.toInt at hm
  change 0 ≤ (x &&& m).toBitVec.toInt at h1
  show (x &&& m).toBitVec.toInt ≤ m.toBitVec.toInt
  rw [BitVec.toInt_eq_toNat_cond] at hm h1 ⊢
  rw [BitVec.toInt_eq_toNat_cond (x := m.toBitVec)]
  split at hm <;> split at h1 <;> split <;> omega
theorem own_nz {x : Int32} (h : x = 0 ∨ x = 1) : narrow .boolean (.int x) = .int x ∧ fits .boolean (.int x) = true := by rcases h with rfl | rfl <;> exact ⟨rfl, rfl⟩
theorem own_b01 {c : Prop} [Decidable c] {b : Int32} (h : b = if c then 0 else 1) : b = 0 ∨ b = 1 := by subst h; split <;> simp
theorem own_cat {v : Value} (h : v.isRef = true) : v.category = 1 := by cases v <;> first | rfl | cases h
theorem own_cI (x : Int32) : (Value.int x).category = 1 := rfl
theorem own_cJ (x : Int64) : (Value.long x).category = 2 := rfl
theorem own_cR (x : Addr) : (Value.ref x).category = 1 := rfl
theorem own_cN : Value.null.category = 1 := rfl
/-! ## own kit, part 1: objects of the law's own heap -/
abbrev OFld := String × String × String × Value
abbrev OObj := (String × List OFld) ⊕ (String × FieldType × List Value)
abbrev OHp := List (Addr × OObj)
abbrev ob (C : String) (fs : List OFld) : OObj := Sum.inl (C, fs)
abbrev ar (D : String) (ty : FieldType) (vs : List Value) : OObj := Sum.inr (D, ty, vs)
def OKo (Z : State) (a0 : Array Value) (h : Heap) (a : Addr) (C : String) (fs : List OFld) : Prop := Exa Z h a C ∧ ∀ f ∈ fs, Laid Z a0 C f.1 f.2.1 f.2.2.1 ∧ (∃ t, parseFieldDescriptor f.2.2.1 = some t) ∧ Fld Z h a f.1 f.2.1 f.2.2.1 f.2.2.2
def OKa (Z : State) (h : Heap) (a : Addr) (D : String) (ty : FieldType) (vs : List Value) : Prop := ∃ c : Cell, Arr Z h a c ty ∧ c.slots = vs.toArray ∧ vs.length < 2 ^ 31 ∧ Z.vm.findClass D = some c.cls ∧ ∀ v ∈ vs, fits ty v = true
def OK (Z : State) (a0 : Array Value) (h : Heap) (a : Addr) (o : OObj) : Prop := match o with
  | .inl (C, fs) => OKo Z a0 h a C fs
  | .inr (D, ty, vs) => OKa Z h a D ty vs
def Hp (Z : State) (a0 : Array Value) (h0 hS : Heap) (ws : List Addr) (h : Heap) (H : OHp) : Prop :=
  Ext h0 h ∧ Keep hS h ws ∧ (∀ (i : Nat) (x : Addr × OObj), H[i]? = some x → h0.size ≤ x.1 ∧ (x.1 ∈ ws ∨ hS.size ≤ x.1) ∧ OK Z a0 h x.1 x.2) ∧ ∀ (i j : Nat) (x y : Addr × OObj), H[i]? = some x → H[j]? = some y → x.1 = y.1 → i = j
section Own
variable {Z : State} {a0 : Array Value} {h0 hS h h' : Heap} {ws : List Addr} {H : OHp} {a : Addr} {o : OObj} {C D O n d : String} {fs : List OFld} {ty : FieldType} {vs : List Value} {v : Value}
theorem OKa.exa (A : OKa Z h a D ty vs) : Exa Z h a D := by
  obtain ⟨c, A, -, -, hf, -⟩ := A
  obtain ⟨-, k, hk, comp, hkind⟩ := A.2.1
  exact ⟨c, k, A.1, hf, hk, A.plain, fun q => by rw [hkind] at q; cases q⟩
theorem OK.lt (A : OK Z a0 h a o) : a < h.size := by
  rcases o with ⟨C, fs⟩ | ⟨D, ty, vs⟩
  · exact A.1.lt
  · obtain ⟨c, A, -⟩ := A; exact A.lt
theorem OK.ext (A : OK Z a0 h a o) (E : Ext h h') : OK Z a0 h' a o := by
  rcases o with ⟨C, fs⟩ | ⟨D, ty, vs⟩
  · exact ⟨A.1.ext E, fun f hf => ⟨(A.2 f hf).1, (A.2 f hf).2.1, (A.2 f hf).2.2.ext E⟩⟩
  · obtain ⟨c, A, r⟩ := A; exact ⟨c, A.ext E, r⟩
theorem OK.keep {us : List Addr} (A : OK Z a0 h a o) (K : Keep h h' us) (q : a ∉ us) : OK Z a0 h' a o := by
  rcases o with ⟨C, fs⟩ | ⟨D, ty, vs⟩
  · exact ⟨A.1.keep K, fun f hf => ⟨(A.2 f hf).1, (A.2 f hf).2.1, (A.2 f hf).2.2.keep K q⟩⟩
  · obtain ⟨c, A, r⟩ := A; exact ⟨c, ⟨K.2.1 a c A.1 q, A.2⟩, r⟩
theorem OKo.put {j : Nat} (A : OKo Z a0 h a C fs) {w : Value} (hj : fs[j]? = some (O, n, d, w)) (hn : ∀ i f, fs[i]? = some f → i ≠ j → f.2.1 ≠ n) (W : Wr h h' a (Jvm.RoadKit.slotOf Z O n d) v) : OKo Z a0 h' a C (fs.set j (O, n, d, v)) := by
  obtain ⟨E, F⟩ := A
  refine ⟨E.wr W, fun f hf => ?_⟩
  obtain ⟨i, hi⟩ := List.mem_iff_getElem?.mp hf
  obtain ⟨l1, ⟨t1, p1⟩, f1⟩ := F _ (List.mem_of_getElem? hj)
  rw [List.getElem?_set] at hi
  by_cases q : j = i
  · subst q
    have hlt : j < fs.length := (List.getElem?_eq_some_iff.mp hj).1
    simp only [if_true, hlt] at hi
    cases hi
    exact ⟨l1, ⟨t1, p1⟩, f1.same W⟩
  · rw [if_neg q] at hi
    obtain ⟨l2, ⟨t2, p2⟩, f2⟩ := F _ (List.mem_of_getElem? hi)
    exact ⟨l2, ⟨t2, p2⟩, f2.other W (Or.inr (slot_ne l2 l1 (hn i f hi (Ne.symm q)) p2 p1))⟩
theorem OKa.store {j : Nat} (A : OKa Z h a D ty vs) (W : Wr h h' a j v) (hv : fits ty v = true) : OKa Z h' a D ty (vs.set j v) := by
  obtain ⟨c, A, hs, hl, hf, hfit⟩ := A
  refine ⟨_, A.same W, ?_, by simpa using hl, hf, fun u hu => ?_⟩
  · simp [Cell.setSlot, hs]
  · rcases List.mem_or_eq_of_mem_set hu with q | q
    · exact hfit u q
    · exact q ▸ hv
theorem Hp.ne (A : Hp Z a0 h0 hS ws h H) {i j : Nat} {x y : Addr × OObj} (hi : H[i]? = some x) (hj : H[j]? = some y) (q : i ≠ j) : x.1 ≠ y.1 := fun e => q (A.2.2.2 i j x y hi hj e)
theorem Hp.at {i : Nat} (A : Hp Z a0 h0 hS ws h H) (hi : H[i]? = some (a, o)) : OK Z a0 h a o := (A.2.2.1 i _ hi).2.2
/-- one cell is written -/
theorem Hp.wr {i sl : Nat} {o' : OObj} (A : Hp Z a0 h0 hS ws h H) (hi : H[i]? = some (a, o)) (W : Wr h h' a sl v) (hO : OK Z a0 h' a o') : Hp Z a0 h0 hS ws h' (H.set i (a, o')) := by
  obtain ⟨E, K, F, I⟩ := A
  have hge := (F i _ hi)
  have hlt : i < H.length := (List.getElem?_eq_some_iff.mp hi).1
  have key : ∀ (k : Nat) (x : Addr × OObj), (H.set i (a, o'))[k]? = some x → ∃ x0 : Addr × OObj, H[k]? = some x0 ∧ x0.1 = x.1 := fun k x hk => by
    rw [List.getElem?_set] at hk
    by_cases q : i = k
    · subst q; simp only [if_true, hlt] at hk; cases hk; exact ⟨_, hi, rfl⟩
    · rw [if_neg q] at hk; exact ⟨x, hk, rfl⟩
  refine ⟨?_, K.wr W hge.2.1, fun k x hk => ?_, fun k1 k2 x y h1 h2 e => ?_⟩
  · have K2 := Keep.of_wr W
    refine ⟨Nat.le_trans E.1 K2.1, fun x c hx => K2.2.1 x c (E.2 x c hx) fun q => ?_⟩
    have := (Array.getElem?_eq_some_iff.mp hx).1
    cases List.mem_singleton.mp q
    have := hge.1
    omega
  · rw [List.getElem?_set] at hk
    by_cases q : i = k
    · subst q; simp only [if_true, hlt] at hk; cases hk; exact ⟨hge.1, hge.2.1, hO⟩
    · rw [if_neg q] at hk
      refine ⟨(F k x hk).1, (F k x hk).2.1, (F k x hk).2.2.keep (Keep.of_wr W) fun z => ?_⟩
      exact q (I i k _ _ hi hk (List.mem_singleton.mp z).symm)
  · obtain ⟨x0, e1, e2⟩ := key k1 x h1
    obtain ⟨y0, e3, e4⟩ := key k2 y h2
    exact I k1 k2 _ _ e1 e3 (by rw [e2, e4, e])
/-- a new cell -/
theorem Hp.new (A : Hp Z a0 h0 hS ws h H) (E' : Ext h h') (hO : OK Z a0 h' h.size o) : Hp Z a0 h0 hS ws h' (H ++ [(h.size, o)]) := by
  obtain ⟨E, K, F, I⟩ := A
  have key : ∀ (k : Nat) (x : Addr × OObj), (H ++ [(h.size, o)])[k]? = some x → (k < H.length ∧ H[k]? = some x) ∨ (k = H.length ∧ x = (h.size, o)) := fun k x hk => by
    rw [List.getElem?_append] at hk
    split at hk
    · rename_i q; exact Or.inl ⟨q, hk⟩
    · rename_i q
      rcases Nat.eq_or_lt_of_le (Nat.le_of_not_lt q) with e | e
      · subst e; simp at hk; exact Or.inr ⟨rfl, hk.symm⟩
      · rw [List.getElem?_eq_none (by simp; omega)] at hk; cases hk
  refine ⟨⟨Nat.le_trans E.1 E'.1, fun x c hx => E'.2 x c (E.2 x c hx)⟩, K.ext E', fun k x hk => ?_, fun k1 k2 x y h1 h2 e => ?_⟩
  · rcases key k x hk with ⟨-, q⟩ | ⟨-, rfl⟩
    · exact ⟨(F k x q).1, (F k x q).2.1, (F k x q).2.2.ext E'⟩
    · exact ⟨E.1, Or.inr K.1, hO⟩
  · rcases key k1 x h1 with ⟨q1, r1⟩ | ⟨q1, rfl⟩ <;> rcases key k2 y h2 with ⟨q2, r2⟩ | ⟨q2, rfl⟩
    · exact I _ _ _ _ r1 r2 e
    · exact absurd e (Nat.ne_of_lt (F _ _ r1).2.2.lt)
    · exact absurd e.symm (Nat.ne_of_lt (F _ _ r2).2.2.lt)
    · rw [q1, q2]
/-- fewer, or in another order -/
theorem Hp.sub {G : OHp} (ix : List Nat) (A : Hp Z a0 h0 hS ws h H) (hG : ix.map (fun i => H[i]?) = G.map some) (hN : ix.Nodup) : Hp Z a0 h0 hS ws h G := by
  have key : ∀ (k : Nat) (x : Addr × OObj), G[k]? = some x → ∃ i : Nat, ix[k]? = some i ∧ H[i]? = some x := fun k x hk => by
    have q : (G.map some)[k]? = some (some x) := by rw [List.getElem?_map, hk]; rfl
    rw [← hG, List.getElem?_map] at q
    cases hi : ix[k]? with
    | none => rw [hi] at q; cases q
    | some i => rw [hi] at q; exact ⟨i, rfl, Option.some.inj q⟩
  refine ⟨A.1, A.2.1, fun k x hk => ?_, fun k1 k2 x y h1 h2 e => ?_⟩
  · obtain ⟨i, -, hi⟩ := key k x hk; exact A.2.2.1 i x hi
  · obtain ⟨i, p1, q1⟩ := key k1 x h1
    obtain ⟨j, p2, q2⟩ := key k2 y h2
    cases A.2.2.2 i j x y q1 q2 e
    have l1 : k1 < ix.length := (List.getElem?_eq_some_iff.mp p1).1
    have l2 : k2 < ix.length := (List.getElem?_eq_some_iff.mp p2).1
    have e1 := (List.getElem?_eq_some_iff.mp p1).2
    have e2 := (List.getElem?_eq_some_iff.mp p2).2
    exact (List.getElem_inj hN).mp (e1.trans e2.symm)
/-- what a callee is handed -/
theorem Hp.enter {F : OHp} (A : Hp Z a0 h0 hS ws h F) : Hp Z a0 h0 h (F.map (·.1)) h F :=
  ⟨A.1, Keep.refl _ _, fun i x hi => ⟨(A.2.2.1 i x hi).1, Or.inl (List.mem_map_of_mem (List.mem_of_getElem? hi)), (A.2.2.1 i x hi).2.2⟩, A.2.2.2⟩
/-- behind a call: the callee's cells, and those that it was not handed -/
theorem Hp.back {F F' G : OHp} {ix rx : List Nat} (A : Hp Z a0 h0 hS ws h H) (hF : ix.map (fun i => H[i]?) = F.map some) (hG : rx.map (fun i => H[i]?) = G.map some) (hN : (ix ++ rx).Nodup) (B : Hp Z a0 h0 h (F.map (·.1)) h' F') : Hp Z a0 h0 hS ws h' (F' ++ G) := by
  have N := List.nodup_append.mp hN
  have AF := A.sub ix hF N.1
  have AG := A.sub rx hG N.2.1
  have mF : ∀ b ∈ F.map (·.1), ∃ i : Nat, i ∈ ix ∧ ∃ x : Addr × OObj, H[i]? = some x ∧ x.1 = b := fun b hb => by
    obtain ⟨x, hx, rfl⟩ := List.mem_map.mp hb
    have : some x ∈ ix.map (fun i => H[i]?) := by rw [hF]; exact List.mem_map_of_mem hx
    obtain ⟨i, hi, e⟩ := List.mem_map.mp this
    exact ⟨i, hi, x, e, rfl⟩
  have mG : ∀ (k : Nat) (x : Addr × OObj), G[k]? = some x → ∃ i : Nat, i ∈ rx ∧ H[i]? = some x := fun k x hk => by
    have : some x ∈ rx.map (fun i => H[i]?) := by rw [hG]; exact List.mem_map_of_mem (List.mem_of_getElem? hk)
    obtain ⟨i, hi, e⟩ := List.mem_map.mp this
    exact ⟨i, hi, e⟩
  have nin : ∀ (k : Nat) (x : Addr × OObj), G[k]? = some x → x.1 ∉ F.map (·.1) := fun k x hk q => by
    obtain ⟨i, hi, y, e1, e2⟩ := mF _ q
    obtain ⟨j, hj, e3⟩ := mG k x hk
    cases A.2.2.2 i j y x e1 e3 e2
    exact N.2.2 i hi i hj rfl
  have key : ∀ (k : Nat) (x : Addr × OObj), (F' ++ G)[k]? = some x → (k < F'.length ∧ F'[k]? = some x) ∨ (F'.length ≤ k ∧ G[k - F'.length]? = some x) := fun k x hk => by
    rw [List.getElem?_append] at hk
    split at hk
    · rename_i q; exact Or.inl ⟨q, hk⟩
    · rename_i q; exact Or.inr ⟨Nat.le_of_not_lt q, hk⟩
  have range : ∀ b, b ∈ F.map (·.1) → b ∈ ws ∨ hS.size ≤ b := fun b hb => by
    obtain ⟨i, -, x, e1, rfl⟩ := mF b hb
    exact (A.2.2.1 i x e1).2.1
  refine ⟨B.1, A.2.1.trans B.2.1 range, fun k x hk => ?_, fun k1 k2 x y h1 h2 e => ?_⟩
  · rcases key k x hk with ⟨-, q⟩ | ⟨-, q⟩
    · obtain ⟨r1, r2, r3⟩ := B.2.2.1 k x q
      exact ⟨r1, r2.elim (range _) fun z => Or.inr (Nat.le_trans A.2.1.1 z), r3⟩
    · obtain ⟨r1, r2, r3⟩ := AG.2.2.1 _ x q
      exact ⟨r1, r2, r3.keep B.2.1 (nin _ x q)⟩
  · have cross : ∀ (k1 k2 : Nat) (x y : Addr × OObj), F'[k1]? = some x → G[k2]? = some y → x.1 = y.1 → False := fun k1 k2 x y g1 g2 e => by
      rcases (B.2.2.1 k1 x g1).2.1 with z | z
      · exact nin k2 y g2 (e ▸ z)
      · have := (AG.2.2.1 k2 y g2).2.2.lt
        rw [e] at z; exact Nat.not_lt.mpr z this
    rcases key k1 x h1 with ⟨l1, q1⟩ | ⟨l1, q1⟩ <;> rcases key k2 y h2 with ⟨l2, q2⟩ | ⟨l2, q2⟩
    · exact B.2.2.2 _ _ _ _ q1 q2 e
    · exact absurd e (fun z => cross _ _ _ _ q1 q2 z)
    · exact absurd e.symm (fun z => cross _ _ _ _ q2 q1 z)
    · have := AG.2.2.2 _ _ _ _ q1 q2 e; omega
end Own
theorem Hp.start (s : State) (a0 : Array Value) : Hp s a0 s.heap s.heap (([] : OHp).map (·.1)) s.heap [] :=
  ⟨⟨Nat.le_refl _, fun _ _ q => q⟩, Keep.refl _ _, fun i x q => by simp at q, fun i j x y q => by simp at q⟩
/-! ## own kit, part 2: blocks of plain instructions -/
abbrev OSt := Option (Array Slot × List Value)
def oLen (n k : Nat) (x : OSt) : OSt := if n = k then x else none
def oLdA (Ls : Array Slot) (k : Nat) (st : List Value) : OSt := match Ls[k]? with
  | some (.val (.ref a)) => some (Ls, .ref a :: st)
  | some (.val .null) => some (Ls, .null :: st)
  | _ => none
def oLdI (Ls : Array Slot) (k : Nat) (st : List Value) : OSt := match Ls[k]? with
  | some (.val (.int v)) => some (Ls, .int v :: st)
  | _ => none
def oLdJ (Ls : Array Slot) (k : Nat) (st : List Value) : OSt := match Ls[k]? with
  | some (.val (.long v)) => some (Ls, .long v :: st)
  | _ => none
def oStI (Ls : Array Slot) (k : Nat) (st : List Value) : OSt := match st with
  | .int x :: r => match storeLocals Ls k (.int x) with
    | some l => some (l, r)
    | none => none
  | _ => none
def oStJ (Ls : Array Slot) (k : Nat) (st : List Value) : OSt := match st with
  | .long x :: r => match storeLocals Ls k (.long x) with
    | some l => some (l, r)
    | none => none
  | _ => none
def oStA (Ls : Array Slot) (k : Nat) (st : List Value) : OSt := match st with
  | .ref x :: r => match storeLocals Ls k (.ref x) with
    | some l => some (l, r)
    | none => none
  | .null :: r => match storeLocals Ls k .null with
    | some l => some (l, r)
    | none => none
  | _ => none
def oInc (Ls : Array Slot) (k : Nat) (c : Int) (st : List Value) : OSt := match Ls[k]? with
  | some (.val (.int x)) => match storeLocals Ls k (.int (x + Int32.ofInt c)) with
    | some l => some (l, st)
    | none => none
  | _ => none
def oII (Ls : Array Slot) (st : List Value) (f : Int32 → Int32 → Int32) : OSt := match st with
  | .int y :: .int x :: r => some (Ls, .int (f x y) :: r)
  | _ => none
def oIIz (Ls : Array Slot) (st : List Value) (f : Int32 → Int32 → Int32) : OSt := match st with
  | .int y :: .int x :: r => if y ≠ 0 then some (Ls, .int (f x y) :: r) else none
  | _ => none
def oJJ (Ls : Array Slot) (st : List Value) (f : Int64 → Int64 → Value) : OSt := match st with
  | .long y :: .long x :: r => some (Ls, f x y :: r)
  | _ => none
def oJI (Ls : Array Slot) (st : List Value) (f : Int64 → Int32 → Int64) : OSt := match st with
  | .int y :: .long x :: r => some (Ls, .long (f x y) :: r)
  | _ => none
def oI (Ls : Array Slot) (st : List Value) (f : Int32 → Value) : OSt := match st with
  | .int x :: r => some (Ls, f x :: r)
  | _ => none
def oJ (Ls : Array Slot) (st : List Value) (f : Int64 → Value) : OSt := match st with
  | .long x :: r => some (Ls, f x :: r)
  | _ => none
def oOne : Value → Bool
  | .int _ => true
  | .ref _ => true
  | .null => true
  | _ => false
def oDup (Ls : Array Slot) (st : List Value) : OSt := match st with
  | x :: r => if oOne x = true then some (Ls, x :: x :: r) else none
  | _ => none
def oPop (Ls : Array Slot) (st : List Value) : OSt := match st with
  | x :: r => if oOne x = true then some (Ls, r) else none
  | _ => none
def oDupX (Ls : Array Slot) (st : List Value) : OSt := match st with
  | x :: y :: r => if oOne x = true then (if oOne y = true then some (Ls, x :: y :: x :: r) else none) else none
  | _ => none
abbrev oUshr (x y : Int32) : Int32 := (x.toUInt32 >>> (y &&& 31).toUInt32).toInt32
abbrev oLushr (x : Int64) (y : Int32) : Int64 := (x.toUInt64 >>> (y &&& 0x3f).toInt64.toUInt64).toInt64
abbrev oI2c (x : Int32) : Int32 := x.toUInt32.toUInt16.toUInt32.toInt32
abbrev oI2b (x : Int32) : Int32 := x.toInt8.toInt32
abbrev oLcmp (x y : Int64) : Int32 := if x > y then 1 else if x = y then 0 else -1
def oEx (i : Instr) (n : Nat) (Ls : Array Slot) (st : List Value) : OSt := match i with
  | .aload_n k => oLen n 1 (oLdA Ls k.val st)
  | .aload k => oLen n 2 (oLdA Ls k st)
  | .iload_n k => oLen n 1 (oLdI Ls k.val st)
  | .iload k => oLen n 2 (oLdI Ls k st)
  | .lload_n k => oLen n 1 (oLdJ Ls k.val st)
  | .lload k => oLen n 2 (oLdJ Ls k st)
  | .istore_n k => oLen n 1 (oStI Ls k.val st)
  | .istore k => oLen n 2 (oStI Ls k st)
  | .lstore_n k => oLen n 1 (oStJ Ls k.val st)
  | .lstore k => oLen n 2 (oStJ Ls k st)
  | .astore_n k => oLen n 1 (oStA Ls k.val st)
  | .astore k => oLen n 2 (oStA Ls k st)
  | .iinc k c => oLen n 3 (oInc Ls k c st)
  | .iconst v => oLen n 1 (some (Ls, .int (Int32.ofInt v) :: st))
  | .lconst v => oLen n 1 (some (Ls, .long (Int64.ofNat v) :: st))
  | .bipush v => oLen n 2 (some (Ls, .int (Int8.ofInt v).toInt32 :: st))
  | .sipush v => oLen n 3 (some (Ls, .int (Int16.ofInt v).toInt32 :: st))
  | .aconst_null => oLen n 1 (some (Ls, .null :: st))
  | .iadd => oLen n 1 (oII Ls st (fun x y => x + y))
  | .isub => oLen n 1 (oII Ls st (fun x y => x - y))
  | .imul => oLen n 1 (oII Ls st (fun x y => x * y))
  | .iand => oLen n 1 (oII Ls st (fun x y => x &&& y))
  | .ior => oLen n 1 (oII Ls st (fun x y => x ||| y))
  | .ixor => oLen n 1 (oII Ls st (fun x y => x ^^^ y))
  | .ishl => oLen n 1 (oII Ls st (fun x y => x <<< (y &&& 31)))
  | .ishr => oLen n 1 (oII Ls st (fun x y => x >>> (y &&& 31)))
  | .iushr => oLen n 1 (oII Ls st (fun x y => oUshr x y))
  | .irem => oLen n 1 (oIIz Ls st (fun x y => x % y))
  | .idiv => oLen n 1 (oIIz Ls st (fun x y => x / y))
  | .ineg => oLen n 1 (oI Ls st (fun x => .int (-x)))
  | .ladd => oLen n 1 (oJJ Ls st (fun x y => .long (x + y)))
  | .lsub => oLen n 1 (oJJ Ls st (fun x y => .long (x - y)))
  | .lmul => oLen n 1 (oJJ Ls st (fun x y => .long (x * y)))
  | .land => oLen n 1 (oJJ Ls st (fun x y => .long (x &&& y)))
  | .lcmp => oLen n 1 (oJJ Ls st (fun x y => .int (oLcmp x y)))
  | .lushr => oLen n 1 (oJI Ls st (fun x y => oLushr x y))
  | .l2i => oLen n 1 (oJ Ls st (fun x => .int x.toInt32))
  | .i2l => oLen n 1 (oI Ls st (fun x => .long x.toInt64))
  | .i2b => oLen n 1 (oI Ls st (fun x => .int (oI2b x)))
  | .i2c => oLen n 1 (oI Ls st (fun x => .int (oI2c x)))
  | .dup => oLen n 1 (oDup Ls st)
  | .pop => oLen n 1 (oPop Ls st)
  | .dup_x1 => oLen n 1 (oDupX Ls st)
  | _ => none
def oRun : List (Instr × Nat) → Array Slot → List Value → OSt
  | [], Ls, st => some (Ls, st)
  | i :: r, Ls, st => match oEx i.1 i.2 Ls st with
    | some x => oRun r x.1 x.2
    | none => none
def oEnd (pc : Nat) : List (Instr × Nat) → Nat
  | [] => pc
  | i :: r => oEnd (pc + i.2) r
def oAt (code : ByteArray) (pc : Nat) (i : Instr × Nat) : Bool := match decode code pc with
  | .ok j => decide (j = i)
  | .error _ => false
def oBlk (code : ByteArray) (pc : Nat) : List (Instr × Nat) → Bool
  | [] => true
  | i :: r => oAt code pc i && oBlk code (pc + i.2) r
theorem oAt.dec {code : ByteArray} {pc : Nat} {i : Instr × Nat} (h : oAt code pc i = true) : decode code pc = .ok i := by
  unfold oAt at h
  split at h
  · rename_i j e; rw [e, of_decide_eq_true h]
  · cases h
theorem oLen.e {n k : Nat} {x : OSt} {y : Array Slot × List Value} (h : oLen n k x = some y) : n = k ∧ x = some y := by
  unfold oLen at h; split at h
  · exact ⟨by assumption, h⟩
  · cases h
theorem oOne.cat {x : Value} (h : oOne x = true) : x.category = 1 := by cases x <;> simp [oOne, Value.category] at h ⊢
section Sound
variable {tb : Tables} [Ours tb] {e : Env} {below : List Frame} {T target : State} {m : MethodId} {c : Code} {pc : Nat} {Ls L' : Array Slot} {st S' : List Value}
set_option maxHeartbeats 4000000 in
theorem oEx.sound {i : Instr} {n : Nat} (h : At T m c below) (hx : tb.exec = Jvm.exec) (hd : decode c.code pc = .ok (i, n)) (he : oEx i n Ls st = some (L', S'))
    (hr : Steps tb e below (T.setTop (mkF m (pc + n) L' S')) target) : Steps tb e below (T.setTop (mkF m pc Ls st)) target := by
  unfold oEx at he
  split at he <;> first | (cases he; done) | skip
  all_goals (obtain ⟨rfl, he⟩ := oLen.e he)
  · unfold oLdA at he; split at he <;> first | (cases he; done) | skip
    · rename_i q; cases he; exact XS.aloadN h hx rfl hd q rfl hr
    · rename_i q; cases he; exact XS.aloadN h hx rfl hd q rfl hr
  · unfold oLdA at he; split at he <;> first | (cases he; done) | skip
    · rename_i q; cases he; exact XS.aload h hx rfl hd q rfl hr
    · rename_i q; cases he; exact XS.aload h hx rfl hd q rfl hr
  · unfold oLdI at he; split at he <;> first | (cases he; done) | skip
    rename_i q; cases he; exact XS.iloadN h hx rfl hd q hr
  · unfold oLdI at he; split at he <;> first | (cases he; done) | skip
    rename_i q; cases he; exact XS.iload h hx rfl hd q hr
  · unfold oLdJ at he; split at he <;> first | (cases he; done) | skip
    rename_i q; cases he; exact XS.lloadN h hx rfl hd q hr
  · unfold oLdJ at he; split at he <;> first | (cases he; done) | skip
    rename_i q; cases he; exact XS.lload h hx rfl hd q hr
  · unfold oStI at he; split at he <;> first | (cases he; done) | skip
    split at he <;> first | (cases he; done) | skip
    rename_i q; cases he; exact XS.istoreN h hx rfl hd rfl q hr
  · unfold oStI at he; split at he <;> first | (cases he; done) | skip
    split at he <;> first | (cases he; done) | skip
    rename_i q; cases he; exact XS.istore h hx rfl hd rfl q hr
  · unfold oStJ at he; split at he <;> first | (cases he; done) | skip
    split at he <;> first | (cases he; done) | skip
    rename_i q; cases he; exact XS.lstoreN h hx rfl hd rfl q hr
  · unfold oStJ at he; split at he <;> first | (cases he; done) | skip
    split at he <;> first | (cases he; done) | skip
    rename_i q; cases he; exact XS.lstore h hx rfl hd rfl q hr
  · unfold oStA at he; split at he <;> first | (cases he; done) | skip
    all_goals (split at he <;> first | (cases he; done) | skip)
    all_goals (rename_i q; cases he; exact XS.astoreN h hx rfl hd rfl rfl q hr)
  · unfold oStA at he; split at he <;> first | (cases he; done) | skip
    all_goals (split at he <;> first | (cases he; done) | skip)
    all_goals (rename_i q; cases he; exact XS.astore h hx rfl hd rfl rfl q hr)
  · unfold oInc at he; split at he <;> first | (cases he; done) | skip
    rename_i q0
    split at he <;> first | (cases he; done) | skip
    rename_i q; cases he; exact XS.iinc h hx rfl hd q0 q hr
  · cases he; exact XS.iconst h hx rfl hd hr
  · cases he; exact XS.lconst h hx rfl hd hr
  · cases he; exact XS.bipush h hx rfl hd hr
  · cases he; exact XS.sipush h hx rfl hd hr
  · cases he; exact XS.aconstNull h hx rfl hd hr
  · unfold oII at he; split at he <;> first | (cases he; done) | skip
    cases he; exact XS.iadd h hx rfl hd rfl hr
  · unfold oII at he; split at he <;> first | (cases he; done) | skip
    cases he; exact XS.isub h hx rfl hd rfl hr
  · unfold oII at he; split at he <;> first | (cases he; done) | skip
    cases he; exact XS.imul h hx rfl hd rfl hr
  · unfold oII at he; split at he <;> first | (cases he; done) | skip
    cases he; exact XS.iand h hx rfl hd rfl hr
  · unfold oII at he; split at he <;> first | (cases he; done) | skip
    cases he; exact XS.ior h hx rfl hd rfl hr
  · unfold oII at he; split at he <;> first | (cases he; done) | skip
    cases he; exact XS.ixor h hx rfl hd rfl hr
  · unfold oII at he; split at he <;> first | (cases he; done) | skip
    cases he; exact XS.ishl h hx rfl hd rfl hr
  · unfold oII at he; split at he <;> first | (cases he; done) | skip
    cases he; exact XS.ishr h hx rfl hd rfl hr
  · unfold oII at he; split at he <;> first | (cases he; done) | skip
    cases he; exact XS.iushr h hx rfl hd rfl hr
  · unfold oIIz at he; split at he <;> first | (cases he; done) | skip
    split at he <;> first | (cases he; done) | skip
    rename_i hy
    cases he
    refine XS.irem h hx rfl hd rfl hy ?_
    rw [irem_eq_mod]; exact hr
  · unfold oIIz at he; split at he <;> first | (cases he; done) | skip
    split at he <;> first | (cases he; done) | skip
    rename_i hy
    cases he; exact XS.idiv h hx rfl hd rfl hy hr
  · unfold oI at he; split at he <;> first | (cases he; done) | skip
    cases he; exact XS.ineg h hx rfl hd rfl hr
  · unfold oJJ at he; split at he <;> first | (cases he; done) | skip
    cases he; exact XS.ladd h hx rfl hd rfl hr
  · unfold oJJ at he; split at he <;> first | (cases he; done) | skip
    cases he; exact XS.lsub h hx rfl hd rfl hr
  · unfold oJJ at he; split at he <;> first | (cases he; done) | skip
    cases he; exact XS.lmul h hx rfl hd rfl hr
  · unfold oJJ at he; split at he <;> first | (cases he; done) | skip
    cases he; exact XS.land h hx rfl hd rfl hr
  · unfold oJJ at he; split at he <;> first | (cases he; done) | skip
    cases he; exact XS.lcmp h hx rfl hd rfl hr
  · unfold oJI at he; split at he <;> first | (cases he; done) | skip
    cases he; exact XS.lushr h hx rfl hd rfl hr
  · unfold oJ at he; split at he <;> first | (cases he; done) | skip
    cases he; exact XS.l2i h hx rfl hd rfl hr
  · unfold oI at he; split at he <;> first | (cases he; done) | skip
    cases he; exact XS.i2l h hx rfl hd rfl hr
  · unfold oI at he; split at he <;> first | (cases he; done) | skip
    cases he; exact XS.i2b h hx rfl hd rfl hr
  · unfold oI at he; split at he <;> first | (cases he; done) | skip
    cases he; exact XS.i2c h hx rfl hd rfl hr
  · unfold oDup at he; split at he <;> first | (cases he; done) | skip
    split at he <;> first | (cases he; done) | skip
    rename_i q; cases he; exact XS.dup h hx rfl hd rfl (oOne.cat q) hr
  · unfold oPop at he; split at he <;> first | (cases he; done) | skip
    split at he <;> first | (cases he; done) | skip
    rename_i q; cases he; exact XS.pop h hx rfl hd rfl (oOne.cat q) hr
  · unfold oDupX at he; split at he <;> first | (cases he; done) | skip
    split at he <;> first | (cases he; done) | skip
    rename_i q1
    split at he <;> first | (cases he; done) | skip
    rename_i q2; cases he; exact XS.dupX1 h hx rfl hd rfl (oOne.cat q1) (oOne.cat q2) hr
theorem oRun.sound (is : List (Instr × Nat)) : ∀ {pc : Nat} {Ls : Array Slot} {st : List Value}, At T m c below → tb.exec = Jvm.exec → oBlk c.code pc is = true → oRun is Ls st = some (L', S') →
    Steps tb e below (T.setTop (mkF m (oEnd pc is) L' S')) target → Steps tb e below (T.setTop (mkF m pc Ls st)) target := by
  induction is with
  | nil => intro pc Ls st h hx hb he hr; cases he; exact hr
  | cons i r ih =>
    intro pc Ls st h hx hb he hr
    simp only [oBlk, Bool.and_eq_true] at hb
    simp only [oRun] at he
    split at he
    · rename_i x q
      exact oEx.sound h hx (oAt.dec hb.1) q (ih h hx hb.2 he hr)
    · cases he
end Sound
/-! ## own kit, part 3: from a frame the run goes to its return -/
def Cx (p : Program) (s : State) (m : MethodId) (meth : Method) (c : Code) (Z : State) (y : MethodName) (code : ByteArray) (maxL : Nat) (ret : Option FieldType) : Prop :=
  p.tables.exec = Jvm.exec ∧ c.code = code ∧ c.maxLocals = maxL ∧ s.vm.findClass y.cls = some m.cls ∧ meth.name = y.name ∧ meth.sig.returnType = ret ∧ meth.locks = false ∧ Z.Warmed39 s.vm
def Ends (p : Program) (e : Env) (s : State) (below : List Frame) (Z : State) (a0 : Array Value) (h0 hS : Heap) (ws : List Addr) (rc rs : Nat) (Q : Option Value → OHp → Prop) (T : State) (g : JFrame) : Prop :=
  ∃ t o, Steps p.tables e below (T.setTop g) t ∧ t.status = .running ∧ Ended t below o ∧ ∃ v L, o = .returned v ∧ (Fr h0.size L ∧ ∃ F', Q v F' ∧ Hp Z a0 h0 hS ws t.heap F') ∧ FrameEnd s o t L rc rs
def Goes (p : Program) (l : Launch) (e : Env) (R : Room) (s : State) (m : MethodId) (args : Array Value) (below : List Frame) (meth : Method) (c : Code) (Z : State) (a0 : Array Value) (h0 hS : Heap) (ws : List Addr) (rc rs : Nat) (Q : Option Value → OHp → Prop) (H : OHp) (cells slots : Nat) (g : JFrame) : Prop :=
  ∀ (T : State) (locs : List Loc), Stand p l e R s m args below meth c T locs cells slots → Fr h0.size locs → Hp Z a0 h0 hS ws T.heap H → Ends p e s below Z a0 h0 hS ws rc rs Q T g
def Does (l : Launch) (Z : State) (a0 : Array Value) (h0 : Heap) (y : MethodName) (code : ByteArray) (maxL : Nat) (ret : Option FieldType) (rm : Room) (as' : Array Value) (F : OHp) (Q : Option Value → OHp → Prop) : Prop :=
  ∀ (ws : List Jvm.Cond) (h : Heap), Hp Z a0 h0 h (F.map (·.1)) h F → MetFree l y (head1 (Jvm.Cond.code y code maxL ret :: ws) rm) (fun a U => a = as' ∧ Z.Warmed39 U.vm ∧ U.heap = h) (fun _ _ _ _ _ => True)
    (fun _ U o U' => ∃ v L, o = .returned v ∧ (Fr h0.size L ∧ ∃ F', Q v F' ∧ Hp Z a0 h0 h (F.map (·.1)) U'.heap F') ∧ FrameEnd U o U' L rm.cells rm.slots)
theorem Does.mk {l : Launch} {Z : State} {a0 : Array Value} {h0 : Heap} {y : MethodName} {code : ByteArray} {maxL : Nat} {ret : Option FieldType} {rm : Room} {as' : Array Value} {F : OHp} {Q : Option Value → OHp → Prop} (Ls : Array Slot)
    (hp : plainFor y = true) (hent : ∀ m, entryFrame m as' maxL = mkF m 0 Ls [])
    (K : ∀ (p : Program) (e : Env) (s : State) (m : MethodId) (args : Array Value) (below : List Frame) (meth : Method) (c : Code) (h : Heap), Cx p s m meth c Z y code maxL ret → Goes p l e rm s m args below meth c Z a0 h0 h (F.map (·.1)) rm.cells rm.slots Q F 0 0 (mkF m 0 Ls [])) :
    Does l Z a0 h0 y code maxL ret rm as' F Q := by
  intro ws h hH
  refine MetFree.of_bodySF (code := code) (maxLocals := maxL) (ret := ret) hp hisR ?_
  intro p e s m args below meth c s₁ Bd hml hP hK
  obtain ⟨rfl, hZ, hh⟩ := hP
  have X0 : Stand p l e rm s m args below meth c s₁ [] 0 0 := Stand.of_body Bd
  have e0 : s₁.heap = h := by rw [← hh, Bd.state]; rfl
  have G := K p e s m args below meth c h ⟨Bd.exec, Bd.bytes, hml, findClass_of_methodNamed Bd.named, (name_of_methodNamed Bd.named Bd.method).1, Bd.returns, Bd.notSynchronized, hZ⟩ s₁ [] X0 (Fr.nil _) (by rw [e0]; exact hH)
  obtain ⟨t, o, h1, h2, h3, h4⟩ := G
  exact ⟨t, o, castTop (hent m) h1, h2, h3, h4⟩
section Goes
variable {p : Program} {l : Launch} {e : Env} {R : Room} {s : State} {m : MethodId} {args : Array Value} {below : List Frame} {meth : Method} {c : Code} {Z : State} {a0 : Array Value} {h0 hS : Heap} {ws : List Addr} {rc rs : Nat} {Q : Option Value → OHp → Prop} {H : OHp} {cells slots : Nat} {y : MethodName} {code : ByteArray} {maxL : Nat} {ret : Option FieldType} {pc : Nat} {Ls : Array Slot} {st : List Value}
theorem Ends.via {T T' : State} {g g' : JFrame} (k : Ends p e s below Z a0 h0 hS ws rc rs Q T' g') (st : ∀ t, Steps p.tables e below (T'.setTop g') t → Steps p.tables e below (T.setTop g) t) : Ends p e s below Z a0 h0 hS ws rc rs Q T g := by
  obtain ⟨t, o, h1, r⟩ := k
  exact ⟨t, o, st _ h1, r⟩
theorem Goes.run (X : Cx p s m meth c Z y code maxL ret) (is : List (Instr × Nat)) {L' : Array Slot} {S' : List Value} {pc' : Nat} (he : oRun is Ls st = some (L', S')) (k : Goes p l e R s m args below meth c Z a0 h0 hS ws rc rs Q H cells slots (mkF m pc' L' S')) (hb : oBlk code pc is = true := by decide +kernel) (hp : oEnd pc is = pc' := by rfl) : Goes p l e R s m args below meth c Z a0 h0 hS ws rc rs Q H cells slots (mkF m pc Ls st) := fun T locs Y N A => by
  subst hp
  exact (k T locs Y N A).via fun t q => oRun.sound is Y.here X.1 (by rw [X.2.1]; exact hb) he q
theorem Goes.runS (X : Cx p s m meth c Z y code maxL ret) (is : List (Instr × Nat)) {S' : List Value} {pc' : Nat} (he : oRun is Ls st = some (Ls, S')) (k : Goes p l e R s m args below meth c Z a0 h0 hS ws rc rs Q H cells slots (mkF m pc' Ls S')) (hb : oBlk code pc is = true := by decide +kernel) (hp : oEnd pc is = pc' := by rfl) : Goes p l e R s m args below meth c Z a0 h0 hS ws rc rs Q H cells slots (mkF m pc Ls st) := Goes.run X is he k hb hp
theorem Goes.goto (X : Cx p s m meth c Z y code maxL ret) {o : Int} {pc' : Nat} (k : Goes p l e R s m args below meth c Z a0 h0 hS ws rc rs Q H cells slots (mkF m pc' Ls st)) (hd : oAt code pc (.goto o, 3) = true := by decide +kernel) (ho : 0 ≤ (pc : Int) + o := by decide) (hp : ((pc : Int) + o).toNat = pc' := by decide) : Goes p l e R s m args below meth c Z a0 h0 hS ws rc rs Q H cells slots (mkF m pc Ls st) := fun T locs Y N A =>
  (k T locs Y N A).via fun t q => XS.goto Y.here X.1 rfl (pc0 := pc) rfl (hb X.2.1 (oAt.dec hd)) ho hp q
theorem Goes.if1 (X : Cx p s m meth c Z y code maxL ret) {cd : ClassFile.Cond} {o : Int} {pc' : Nat} {x : Int32} (k1 : ifCond.holds cd x = true → Goes p l e R s m args below meth c Z a0 h0 hS ws rc rs Q H cells slots (mkF m pc' Ls st)) (k2 : ifCond.holds cd x = false → Goes p l e R s m args below meth c Z a0 h0 hS ws rc rs Q H cells slots (mkF m (pc + 3) Ls st)) (hd : oAt code pc (.ifCond cd o, 3) = true := by decide +kernel) (ho : 0 ≤ (pc : Int) + o := by decide) (hp : ((pc : Int) + o).toNat = pc' := by decide) : Goes p l e R s m args below meth c Z a0 h0 hS ws rc rs Q H cells slots (mkF m pc Ls (.int x :: st)) := fun T locs Y N A => by
  cases q : ifCond.holds cd x with
  | true => exact (k1 q T locs Y N A).via fun t r => XS.ifYes Y.here X.1 rfl (pc0 := pc) rfl (hb X.2.1 (oAt.dec hd)) rfl q ho hp r
  | false => exact (k2 q T locs Y N A).via fun t r => XS.ifNo Y.here X.1 rfl (hb X.2.1 (oAt.dec hd)) rfl q r
theorem Goes.if2 (X : Cx p s m meth c Z y code maxL ret) {cd : ClassFile.Cond} {o : Int} {pc' : Nat} {x z : Int32} (k1 : if_icmp.holds cd x z = true → Goes p l e R s m args below meth c Z a0 h0 hS ws rc rs Q H cells slots (mkF m pc' Ls st)) (k2 : if_icmp.holds cd x z = false → Goes p l e R s m args below meth c Z a0 h0 hS ws rc rs Q H cells slots (mkF m (pc + 3) Ls st)) (hd : oAt code pc (.if_icmp cd o, 3) = true := by decide +kernel) (ho : 0 ≤ (pc : Int) + o := by decide) (hp : ((pc : Int) + o).toNat = pc' := by decide) : Goes p l e R s m args below meth c Z a0 h0 hS ws rc rs Q H cells slots (mkF m pc Ls (.int z :: .int x :: st)) := fun T locs Y N A => by
  cases q : if_icmp.holds cd x z with
  | true => exact (k1 q T locs Y N A).via fun t r => XS.icmpYes Y.here X.1 rfl (pc0 := pc) rfl (hb X.2.1 (oAt.dec hd)) rfl q ho hp r
  | false => exact (k2 q T locs Y N A).via fun t r => XS.icmpNo Y.here X.1 rfl (hb X.2.1 (oAt.dec hd)) rfl q r
theorem Goes.ifA (X : Cx p s m meth c Z y code maxL ret) {cd : ClassFile.ACond} {o : Int} {pc' : Nat} {x z : Value} (h1 : x.isRef = true) (h2 : z.isRef = true) (k1 : acV cd (decide (x = z)) = true → Goes p l e R s m args below meth c Z a0 h0 hS ws rc rs Q H cells slots (mkF m pc' Ls st)) (k2 : acV cd (decide (x = z)) = false → Goes p l e R s m args below meth c Z a0 h0 hS ws rc rs Q H cells slots (mkF m (pc + 3) Ls st)) (hd : oAt code pc (.if_acmp cd o, 3) = true := by decide +kernel) (ho : 0 ≤ (pc : Int) + o := by decide) (hp : ((pc : Int) + o).toNat = pc' := by decide) : Goes p l e R s m args below meth c Z a0 h0 hS ws rc rs Q H cells slots (mkF m pc Ls (z :: x :: st)) := fun T locs Y N A => by
  cases q : acV cd (decide (x = z)) with
  | true => exact (k1 q T locs Y N A).via fun t r => acmp Y X.1 rfl h1 h2 (pc0 := pc) (pc' := pc') rfl (hb X.2.1 (oAt.dec hd)) rfl rfl ho (by rw [if_pos q]; exact hp.symm) r
  | false => exact (k2 q T locs Y N A).via fun t r => acmp Y X.1 rfl h1 h2 (pc0 := pc) (pc' := pc + 3) rfl (hb X.2.1 (oAt.dec hd)) rfl rfl ho (by rw [if_neg (by rw [q]; simp)]) r
theorem Goes.nullY (X : Cx p s m meth c Z y code maxL ret) {o : Int} {pc' : Nat} (k : Goes p l e R s m args below meth c Z a0 h0 hS ws rc rs Q H cells slots (mkF m pc' Ls st)) (hd : oAt code pc (.ifnull o, 3) = true := by decide +kernel) (ho : 0 ≤ (pc : Int) + o := by decide) (hp : ((pc : Int) + o).toNat = pc' := by decide) : Goes p l e R s m args below meth c Z a0 h0 hS ws rc rs Q H cells slots (mkF m pc Ls (.null :: st)) := fun T locs Y N A =>
  (k T locs Y N A).via fun t r => XS.ifnullYes Y.here X.1 rfl (pc0 := pc) rfl (hb X.2.1 (oAt.dec hd)) rfl ho hp r
theorem Goes.nullN (X : Cx p s m meth c Z y code maxL ret) {o : Int} {b : Addr} (k : Goes p l e R s m args below meth c Z a0 h0 hS ws rc rs Q H cells slots (mkF m (pc + 3) Ls st)) (hd : oAt code pc (.ifnull o, 3) = true := by decide +kernel) : Goes p l e R s m args below meth c Z a0 h0 hS ws rc rs Q H cells slots (mkF m pc Ls (.ref b :: st)) := fun T locs Y N A =>
  (k T locs Y N A).via fun t r => XS.ifnullNo Y.here X.1 rfl (hb X.2.1 (oAt.dec hd)) rfl r
theorem Goes.nonY (X : Cx p s m meth c Z y code maxL ret) {o : Int} {pc' : Nat} {b : Addr} (k : Goes p l e R s m args below meth c Z a0 h0 hS ws rc rs Q H cells slots (mkF m pc' Ls st)) (hd : oAt code pc (.ifnonnull o, 3) = true := by decide +kernel) (ho : 0 ≤ (pc : Int) + o := by decide) (hp : ((pc : Int) + o).toNat = pc' := by decide) : Goes p l e R s m args below meth c Z a0 h0 hS ws rc rs Q H cells slots (mkF m pc Ls (.ref b :: st)) := fun T locs Y N A =>
  (k T locs Y N A).via fun t r => XS.ifnonnullYes Y.here X.1 rfl (pc0 := pc) rfl (hb X.2.1 (oAt.dec hd)) rfl ho hp r
theorem Goes.nonN (X : Cx p s m meth c Z y code maxL ret) {o : Int} (k : Goes p l e R s m args below meth c Z a0 h0 hS ws rc rs Q H cells slots (mkF m (pc + 3) Ls st)) (hd : oAt code pc (.ifnonnull o, 3) = true := by decide +kernel) : Goes p l e R s m args below meth c Z a0 h0 hS ws rc rs Q H cells slots (mkF m pc Ls (.null :: st)) := fun T locs Y N A =>
  (k T locs Y N A).via fun t r => XS.ifnonnullNo Y.here X.1 rfl (hb X.2.1 (oAt.dec hd)) rfl r
theorem Goes.ldcI (X : Cx p s m meth c Z y code maxL ret) {index : Nat} {v : Int32} (w : (Jvm.Cond.constant y.cls index v).before a0 Z = true) (k : Goes p l e R s m args below meth c Z a0 h0 hS ws rc rs Q H cells slots (mkF m (pc + 2) Ls (.int v :: st))) (hd : oAt code pc (.ldc index, 2) = true := by decide +kernel) : Goes p l e R s m args below meth c Z a0 h0 hS ws rc rs Q H cells slots (mkF m pc Ls st) := fun T locs Y N A =>
  (k T locs Y N A).via fun t r => Y.ldcI X.1 X.2.2.2.1 (mvT X.2.2.2.2.2.2.2 w) rfl (hb X.2.1 (oAt.dec hd)) r
/-- fewer objects, or in another order -/
theorem Goes.sub {G : OHp} (ix : List Nat) (hG : ix.map (fun i => H[i]?) = G.map some) {g : JFrame} (k : Goes p l e R s m args below meth c Z a0 h0 hS ws rc rs Q G cells slots g) (hN : ix.Nodup := by decide) : Goes p l e R s m args below meth c Z a0 h0 hS ws rc rs Q H cells slots g := fun T locs Y N A =>
  k T locs Y N (A.sub ix hG hN)
theorem Goes.more {cells' slots' : Nat} (h1 : cells ≤ cells') (h2 : slots ≤ slots') {g : JFrame} (k : Goes p l e R s m args below meth c Z a0 h0 hS ws rc rs Q H cells' slots' g) : Goes p l e R s m args below meth c Z a0 h0 hS ws rc rs Q H cells slots g := fun T locs Y N A =>
  k T locs (Y.more h1 h2) N A
/-- two objects at two places of the list lie at two addresses -/
theorem Goes.ne {g : JFrame} (i j : Nat) {x z : Addr × OObj} (hi : H[i]? = some x) (hj : H[j]? = some z) (q : i ≠ j) (k : x.1 ≠ z.1 → Goes p l e R s m args below meth c Z a0 h0 hS ws rc rs Q H cells slots g) : Goes p l e R s m args below meth c Z a0 h0 hS ws rc rs Q H cells slots g := fun T locs Y N A =>
  k (A.ne hi hj q) T locs Y N A
theorem Goes.new (X : Cx p s m meth c Z y code maxL ret) {C : String} {index n : Nat} (fs : List OFld) (w : (Jvm.Cond.classLink y.cls index C).before a0 Z = true) (wi : (Jvm.Cond.instantiable C n).before a0 Z = true) (wz : (Jvm.Cond.initialized C).before a0 Z = true) (hfs : ∀ f ∈ fs, Laid Z a0 C f.1 f.2.1 f.2.2.1 ∧ ∃ t, parseFieldDescriptor f.2.2.1 = some t ∧ f.2.2.2 = defaultValue t) (k : ∀ a, Goes p l e R s m args below meth c Z a0 h0 hS ws rc rs Q (H ++ [(a, ob C fs)]) (cells + 1) (slots + n) (mkF m (pc + 3) Ls (.ref a :: st))) (hd : oAt code pc (.new index, 3) = true := by decide +kernel) (hc : cells + 1 ≤ R.cells := by decide) (hl : slots + n ≤ R.slots := by decide) : Goes p l e R s m args below meth c Z a0 h0 hS ws rc rs Q H cells slots (mkF m pc Ls st) := fun T locs Y N A => by
  obtain ⟨T', h', Y', e', E', X', D', -, st'⟩ := newO Y X.1 X.2.2.2.2.2.2.2 X.2.2.2.1 w wi wz rfl (g := mkF m pc Ls st) rfl (hb X.2.1 (oAt.dec hd)) hc hl
  refine (k T.heap.size T' locs Y' N ?_).via st'
  rw [e']
  refine A.new E' ⟨X', fun f hf => ?_⟩
  obtain ⟨h1, t, h2, h3⟩ := hfs f hf
  exact ⟨h1, ⟨t, h2⟩, by rw [h3]; exact D' h1 h2⟩
theorem Goes.getF (X : Cx p s m meth c Z y code maxL ret) {R0 : String} {index : Nat} (i j : Nat) {a : Addr} {C : String} {fs : List OFld} {f : OFld} (hi : H[i]? = some (a, ob C fs)) (hj : fs[j]? = some f) (w : (Jvm.Cond.fieldLink y.cls index R0 f.2.1 f.2.2.1).before a0 Z = true) (via : Via Z R0 f.1 f.2.1 f.2.2.1) (k : Goes p l e R s m args below meth c Z a0 h0 hS ws rc rs Q H cells slots (mkF m (pc + 3) Ls (f.2.2.2 :: st))) (hd : oAt code pc (.getfield index, 3) = true := by decide +kernel) : Goes p l e R s m args below meth c Z a0 h0 hS ws rc rs Q H cells slots (mkF m pc Ls (.ref a :: st)) := fun T locs Y N A => by
  have F := ((A.at hi).2 f (List.mem_of_getElem? hj)).2.2
  obtain ⟨T', Y', e', st'⟩ := RoadKit.getF Y X.1 X.2.2.2.2.2.2.2 (host := "") X.2.2.2.1 (Or.inl w) via rfl F (g := mkF m pc Ls (.ref a :: st)) rfl rfl (hb X.2.1 (oAt.dec hd))
  exact (k T' locs Y' N (by rw [e']; exact A)).via st'
theorem Goes.getFN (X : Cx p s m meth c Z y code maxL ret) {R0 host : String} {index : Nat} (i j : Nat) {a : Addr} {C : String} {fs : List OFld} {f : OFld} (hi : H[i]? = some (a, ob C fs)) (hj : fs[j]? = some f) (w : (Jvm.Cond.fieldLinkNest y.cls index R0 f.2.1 f.2.2.1 host).before a0 Z = true) (via : Via Z R0 f.1 f.2.1 f.2.2.1) (k : Goes p l e R s m args below meth c Z a0 h0 hS ws rc rs Q H cells slots (mkF m (pc + 3) Ls (f.2.2.2 :: st))) (hd : oAt code pc (.getfield index, 3) = true := by decide +kernel) : Goes p l e R s m args below meth c Z a0 h0 hS ws rc rs Q H cells slots (mkF m pc Ls (.ref a :: st)) := fun T locs Y N A => by
  have F := ((A.at hi).2 f (List.mem_of_getElem? hj)).2.2
  obtain ⟨T', Y', e', st'⟩ := RoadKit.getF Y X.1 X.2.2.2.2.2.2.2 (host := host) X.2.2.2.1 (Or.inr w) via rfl F (g := mkF m pc Ls (.ref a :: st)) rfl rfl (hb X.2.1 (oAt.dec hd))
  exact (k T' locs Y' N (by rw [e']; exact A)).via st'
theorem Goes.putF (X : Cx p s m meth c Z y code maxL ret) {R0 : String} {index kk : Nat} (i j : Nat) {a : Addr} {C : String} {fs : List OFld} {f : OFld} {v : Value} {ty : FieldType} (hi : H[i]? = some (a, ob C fs)) (hj : fs[j]? = some f) (w : (Jvm.Cond.fieldLink y.cls index R0 f.2.1 f.2.2.1).before a0 Z = true) (via : Via Z R0 f.1 f.2.1 f.2.2.1) (L : (Jvm.Cond.lays C f.1 f.2.1 f.2.2.1).before a0 Z = true ∨ ((Jvm.Cond.laysFinal C f.1 f.2.1 f.2.2.1).before a0 Z = true ∧ y.cls = f.1 ∧ y.name = "<init>")) (wi : (Jvm.Cond.instantiable C kk).before a0 Z = true) (hn : ∀ i f', fs[i]? = some f' → i ≠ j → f'.2.1 ≠ f.2.1) (hty : parseFieldDescriptor f.2.2.1 = some ty) (hnv : narrow ty v = v) (hf : fits ty v = true) (k : Goes p l e R s m args below meth c Z a0 h0 hS ws rc rs Q (H.set i (a, ob C (fs.set j (f.1, f.2.1, f.2.2.1, v)))) cells slots (mkF m (pc + 3) Ls st)) (hd : oAt code pc (.putfield index, 3) = true := by decide +kernel) : Goes p l e R s m args below meth c Z a0 h0 hS ws rc rs Q H cells slots (mkF m pc Ls (v :: .ref a :: st)) := fun T locs Y N A => by
  have O := A.at hi
  have F := (O.2 f (List.mem_of_getElem? hj)).2.2
  obtain ⟨T', h', Y', e', W, st'⟩ := RoadKit.putF Y X.1 X.2.2.2.2.2.2.2 (host := "") X.2.2.2.1 (Or.inl w) via rfl F O.1 (L.imp id fun q => ⟨q.1, q.2.1, X.2.2.2.2.1.trans q.2.2⟩) wi hty hnv hf (g := mkF m pc Ls (v :: .ref a :: st)) rfl rfl (hb X.2.1 (oAt.dec hd))
  refine (k T' _ Y' (Fr.snoc Y' N (A.2.2.1 i _ hi).1) ?_).via st'
  rw [e']
  exact A.wr hi W (OKo.put O hj hn W)
theorem Goes.getS (X : Cx p s m meth c Z y code maxL ret) {R0 O n d : String} {index : Nat} {v : Value} (w : (Jvm.Cond.fieldLink y.cls index R0 n d).before a0 Z = true) (via : Via Z R0 O n d) (F : Sta Z h0 O n d v) (k : Goes p l e R s m args below meth c Z a0 h0 hS ws rc rs Q H cells slots (mkF m (pc + 3) Ls (v :: st))) (hd : oAt code pc (.getstatic index, 3) = true := by decide +kernel) : Goes p l e R s m args below meth c Z a0 h0 hS ws rc rs Q H cells slots (mkF m pc Ls st) := fun T locs Y N A => by
  obtain ⟨T', Y', e', st'⟩ := RoadKit.getS Y X.1 X.2.2.2.2.2.2.2 (host := "") X.2.2.2.1 w via rfl (F.ext A.1) (g := mkF m pc Ls st) rfl (hb X.2.1 (oAt.dec hd))
  exact (k T' locs Y' N (by rw [e']; exact A)).via st'
theorem Goes.initO (X : Cx p s m meth c Z y code maxL ret) {index : Nat} {a : Addr} (W : Nat) (w1 : (Jvm.Cond.methodLink y.cls index Lib.objectInit).before a0 Z = true) (w2 : (Jvm.Cond.instanceMethod Lib.objectInit).before a0 Z = true) (w3 : (Jvm.Cond.code Lib.objectInit ⟨#[0xb1]⟩ 1 none).before a0 Z = true) (hsize : Ls.size = maxL) (k : Goes p l e R s m args below meth c Z a0 h0 hS ws rc rs Q H cells slots (mkF m (pc + 3) Ls st)) (hd : oAt code pc (.invokespecial index, 3) = true := by decide +kernel) (hf : 1 ≤ R.frames := by decide) (hW : (st.map fun v => v.category).sum = W := by rfl) (hl : W + 12 ≤ R.locals := by decide) : Goes p l e R s m args below meth c Z a0 h0 hS ws rc rs Q H cells slots (mkF m pc Ls (.ref a :: st)) := fun T locs Y N A => by
  subst hW
  obtain ⟨T', Y', e', st'⟩ := RoadKit.initO Y X.1 X.2.2.2.2.2.2.2 X.2.2.2.1 w1 w2 w3 rfl (g := mkF m pc Ls (.ref a :: st)) rfl (hsize.trans X.2.2.1.symm) rfl (hb X.2.1 (oAt.dec hd)) hf (W := (st.map fun v => v.category).sum) (by show 2 * 0 + _ ≤ _; omega) hl
  exact (k T' locs Y' N (by rw [e']; exact A)).via st'
/-- the return -/
theorem Goes.fin {v : Option Value} {g : JFrame} (X : Cx p s m meth c Z y code maxL ret) (hv : ret = none → v = none) (hQ : Q v H) (hc : cells ≤ rc) (hs : slots ≤ rs) (hst : ∀ (T : State) (locs : List Loc) (fs : List Frame), Stand p l e R s m args below meth c T locs cells slots → (∀ (f : JFrame) (acts : List Action), f.method = m → f.locked = none → f.entered = [] → (doReturn e (T.setTop f) acts v).1 = T.setFrames fs) → Steps p.tables e below (T.setTop g) (T.setFrames fs)) :
    Goes p l e R s m args below meth c Z a0 h0 hS ws rc rs Q H cells slots g := fun T locs Y N A => by
  obtain ⟨fs, hr, hrun, hended, hW, hsame⟩ := Y.leave (v := v) (fun q => hv (X.2.2.2.2.2.1.symm.trans q)) X.2.2.2.2.2.2.1
  exact ⟨_, _, hst T locs fs Y hr, hrun, hended, v, locs, rfl, ⟨N, H, hQ, A⟩, ⟨_, rfl⟩, hW, hsame.mono hc hs⟩
theorem Goes.retV (X : Cx p s m meth c Z y code maxL none) (hQ : Q none H) (hd : oAt code pc (.return_, 1) = true := by decide +kernel) (hc : cells ≤ rc := by decide) (hs : slots ≤ rs := by decide) : Goes p l e R s m args below meth c Z a0 h0 hS ws rc rs Q H cells slots (mkF m pc Ls []) :=
  Goes.fin X (fun _ => rfl) hQ hc hs fun T locs fs Y hr => Y.returnOut X.1 X.2.2.2.2.2.1 (hb X.2.1 (oAt.dec hd)) hr
theorem Goes.retI {z : Int32} {t : FieldType} (X : Cx p s m meth c Z y code maxL (some t)) (ht : t = .int ∨ t = .boolean ∨ t = .byte ∨ t = .char ∨ t = .short) (hn : narrow t (.int z) = .int z) (hQ : Q (some (.int z)) H) (hd : oAt code pc (.ireturn, 1) = true := by decide +kernel) (hc : cells ≤ rc := by decide) (hs : slots ≤ rs := by decide) : Goes p l e R s m args below meth c Z a0 h0 hS ws rc rs Q H cells slots (mkF m pc Ls (.int z :: st)) :=
  Goes.fin X (fun q => by cases q) hQ hc hs fun T locs fs Y hr => retOut Y X.1 X.2.2.2.2.2.1 hn (Or.inl ⟨rfl, ht, z, rfl⟩) (hb X.2.1 (oAt.dec hd)) hr
theorem Goes.retJ {z : Int64} (X : Cx p s m meth c Z y code maxL (some .long)) (hQ : Q (some (.long z)) H) (hd : oAt code pc (.lreturn, 1) = true := by decide +kernel) (hc : cells ≤ rc := by decide) (hs : slots ≤ rs := by decide) : Goes p l e R s m args below meth c Z a0 h0 hS ws rc rs Q H cells slots (mkF m pc Ls (.long z :: st)) :=
  Goes.fin X (fun q => by cases q) hQ hc hs fun T locs fs Y hr => retOut Y X.1 X.2.2.2.2.2.1 rfl (Or.inr (Or.inl ⟨rfl, rfl, z, rfl⟩)) (hb X.2.1 (oAt.dec hd)) hr
theorem Goes.retA {v : Value} {t : FieldType} (X : Cx p s m meth c Z y code maxL (some t)) (ht : t.isReference = true) (hv : v.isRef = true) (hn : narrow t v = v) (hQ : Q (some v) H) (hd : oAt code pc (.areturn, 1) = true := by decide +kernel) (hc : cells ≤ rc := by decide) (hs : slots ≤ rs := by decide) : Goes p l e R s m args below meth c Z a0 h0 hS ws rc rs Q H cells slots (mkF m pc Ls (v :: st)) :=
  Goes.fin X (fun q => by cases q) hQ hc hs fun T locs fs Y hr => retOut Y X.1 X.2.2.2.2.2.1 hn (Or.inr (Or.inr (Or.inr (Or.inr ⟨rfl, ht, hv⟩)))) (hb X.2.1 (oAt.dec hd)) hr
/-- a static call -/
theorem Goes.callS (X : Cx p s m meth c Z y code maxL ret) {index : Nat} {y' : MethodName} {code' : ByteArray} {maxL' : Nat} {ret' : Option FieldType} {rm : Room} {argsL : List Value} {F G : OHp} {Q' : Option Value → OHp → Prop} (W : Nat) (ix rx : List Nat) (D : Does l Z a0 h0 y' code' maxL' ret' rm argsL.toArray F Q') (w1 : (Jvm.Cond.methodLink y.cls index y').before a0 Z = true) (w2 : (Jvm.Cond.static y').before a0 Z = true) (w3 : (Jvm.Cond.initialized y'.cls).before a0 Z = true) (w4 : (Jvm.Cond.code y' code' maxL' ret').before a0 Z = true) {ps : List FieldType} {r : Option FieldType} (hpd : parseMethodDescriptor y'.desc = some ⟨ps, r⟩) (hlen : argsL.length = ps.length) {stk : List Value} (hstk : stk = argsL.reverse ++ st) (hsize : Ls.size = maxL) (hF : ix.map (fun i => H[i]?) = F.map some) (hG : rx.map (fun i => H[i]?) = G.map some) (k : ∀ v F', Q' v F' → Goes p l e R s m args below meth c Z a0 h0 hS ws rc rs Q (F' ++ G) (cells + rm.cells) (slots + rm.slots) (mkF m (pc + 3) Ls (v.toList ++ st))) (hy : y'.cls ≠ "java/lang/invoke/MethodHandle" ∧ y'.cls ≠ "java/lang/invoke/VarHandle" := by decide) (hN : (ix ++ rx).Nodup := by decide) (hd : oAt code pc (.invokestatic index, 3) = true := by decide +kernel) (hfr : rm.frames + 1 ≤ R.frames := by decide) (hW : (st.map fun v => v.category).sum = W := by rfl) (hlo : W + (maxL' + 11) + rm.locals ≤ R.locals := by decide) (hce : cells + rm.cells ≤ R.cells := by decide) (hsl : slots + rm.slots ≤ R.slots := by decide) : Goes p l e R s m args below meth c Z a0 h0 hS ws rc rs Q H cells slots (mkF m pc Ls stk) := fun T locs Y N A => by
  subst hstk hW
  have NN := List.nodup_append.mp hN
  obtain ⟨v, vm1, ⟨T', L', k', n'⟩, -, Y', ⟨Lc, ⟨N', F', hQ', B⟩, l', k'', n''⟩, st'⟩ := Jvm.LawKit.callS Y X.1 (y := y') X.2.2.2.1 (mvT X.2.2.2.2.2.2.2 w1) (mvT X.2.2.2.2.2.2.2 w2) (mvT X.2.2.2.2.2.2.2 w3) (mvT X.2.2.2.2.2.2.2 w4) hy
    (backOf (W := (st.map fun v => v.category).sum) (Q := fun v h' L => Fr h0.size L ∧ ∃ F', Q' v F' ∧ Hp Z a0 h0 T.heap (F.map (·.1)) h' F') (D [] T.heap ((A.sub ix hF NN.1).enter)) X.2.2.2.2.2.2.2 w4 w3 hfr hlo) (g := mkF m pc Ls (argsL.reverse ++ st)) rfl (hsize.trans X.2.2.1.symm) (argsL := argsL) (rest := st) (lenOf hpd hlen) rfl (by show 2 * 0 + _ ≤ _; omega) (hb X.2.1 (oAt.dec hd)) (fun _ _ => ⟨rfl, rfl, hce, hsl⟩)
  dsimp only [Pt.U, Pt.locs, Pt.cells, Pt.slots] at Y' l' k'' n'' st' B
  subst l' k'' n''
  exact (k v F' hQ' T' _ Y' (N.app N') (A.back hF hG hN B)).via st'
/-- a constructor's call -/
theorem Goes.callN (X : Cx p s m meth c Z y code maxL ret) {index : Nat} {y' : MethodName} {code' : ByteArray} {maxL' : Nat} {rm : Room} {argsL : List Value} {a : Addr} {F G : OHp} {Q' : Option Value → OHp → Prop} (W : Nat) (ix rx : List Nat) (D : Does l Z a0 h0 y' code' maxL' none rm (.ref a :: argsL).toArray F Q') (hy1 : y'.name = "<init>") (w1 : (Jvm.Cond.methodLink y.cls index y').before a0 Z = true) (w2 : (Jvm.Cond.instanceMethod y').before a0 Z = true) (w3 : (Jvm.Cond.initialized y'.cls).before a0 Z = true) (w4 : (Jvm.Cond.code y' code' maxL' none).before a0 Z = true) {ps : List FieldType} {r : Option FieldType} (hpd : parseMethodDescriptor y'.desc = some ⟨ps, r⟩) (hlen : argsL.length = ps.length) {stk : List Value} (hstk : stk = argsL.reverse ++ .ref a :: st) (hsize : Ls.size = maxL) (hF : ix.map (fun i => H[i]?) = F.map some) (hG : rx.map (fun i => H[i]?) = G.map some) (k : ∀ v F', Q' v F' → Goes p l e R s m args below meth c Z a0 h0 hS ws rc rs Q (F' ++ G) (cells + rm.cells) (slots + rm.slots) (mkF m (pc + 3) Ls (v.toList ++ st))) (hy : y'.cls ≠ "java/lang/invoke/MethodHandle" ∧ y'.cls ≠ "java/lang/invoke/VarHandle" := by decide) (hN : (ix ++ rx).Nodup := by decide) (hd : oAt code pc (.invokespecial index, 3) = true := by decide +kernel) (hfr : rm.frames + 1 ≤ R.frames := by decide) (hW : (st.map fun v => v.category).sum = W := by rfl) (hlo : W + (maxL' + 11) + rm.locals ≤ R.locals := by decide) (hce : cells + rm.cells ≤ R.cells := by decide) (hsl : slots + rm.slots ≤ R.slots := by decide) : Goes p l e R s m args below meth c Z a0 h0 hS ws rc rs Q H cells slots (mkF m pc Ls stk) := fun T locs Y N A => by
  subst hstk hW
  have NN := List.nodup_append.mp hN
  obtain ⟨v, vm1, ⟨T', L', k', n'⟩, -, Y', ⟨Lc, ⟨N', F', hQ', B⟩, l', k'', n''⟩, st'⟩ := Y.specialBack X.1 (y := y') hy1 X.2.2.2.1 (mvT X.2.2.2.2.2.2.2 w1) (mvT X.2.2.2.2.2.2.2 w2) (mvT X.2.2.2.2.2.2.2 w4) hy
    (backOf (W := (st.map fun v => v.category).sum) (Q := fun v h' L => Fr h0.size L ∧ ∃ F', Q' v F' ∧ Hp Z a0 h0 T.heap (F.map (·.1)) h' F') (D [] T.heap ((A.sub ix hF NN.1).enter)) X.2.2.2.2.2.2.2 w4 w3 hfr hlo) (g := mkF m pc Ls (argsL.reverse ++ .ref a :: st)) rfl (hsize.trans X.2.2.1.symm) (Steps.refl _) (a := a) (argsL := argsL) (rest := st) (lenOf hpd hlen) rfl (by show 2 * 0 + _ ≤ _; omega) (hb X.2.1 (oAt.dec hd)) (fun _ _ => ⟨rfl, rfl, hce, hsl⟩)
  dsimp only [Pt.U, Pt.locs, Pt.cells, Pt.slots] at Y' l' k'' n'' st' B
  subst l' k'' n''
  exact (k v F' hQ' T' _ Y' (N.app N') (A.back hF hG hN B)).via fun t q => st'.trans q
/-- a virtual call on an object of the list -/
theorem Goes.callV (X : Cx p s m meth c Z y code maxL ret) {index : Nat} {y' z' : MethodName} {code' : ByteArray} {maxL' : Nat} {ret' : Option FieldType} {rm : Room} {argsL : List Value} {a : Addr} {C : String} {F G : OHp} {Q' : Option Value → OHp → Prop} (W : Nat) (i : Nat) (ix rx : List Nat) {fs : List OFld} (hi : H[i]? = some (a, ob C fs)) (D : Does l Z a0 h0 z' code' maxL' ret' rm (.ref a :: argsL).toArray F Q') (w1 : (Jvm.Cond.methodLink y.cls index y').before a0 Z = true) (w2 : (Jvm.Cond.declares y').before a0 Z = true) (w5 : (Jvm.Cond.selects C y' z').before a0 Z = true) (w6 : (Jvm.Cond.instanceMethod z').before a0 Z = true) (nf : NotFace s y') (w3 : (Jvm.Cond.initialized z'.cls).before a0 Z = true) (w4 : (Jvm.Cond.code z' code' maxL' ret').before a0 Z = true) {ps : List FieldType} {r : Option FieldType} (hpd : parseMethodDescriptor y'.desc = some ⟨ps, r⟩) (hlen : argsL.length = ps.length) {stk : List Value} (hstk : stk = argsL.reverse ++ .ref a :: st) (hsize : Ls.size = maxL) (hF : ix.map (fun i => H[i]?) = F.map some) (hG : rx.map (fun i => H[i]?) = G.map some) (k : ∀ v F', Q' v F' → Goes p l e R s m args below meth c Z a0 h0 hS ws rc rs Q (F' ++ G) (cells + rm.cells) (slots + rm.slots) (mkF m (pc + 3) Ls (v.toList ++ st))) (hy : y'.cls ≠ "java/lang/invoke/MethodHandle" ∧ y'.cls ≠ "java/lang/invoke/VarHandle" := by decide) (hN : (ix ++ rx).Nodup := by decide) (hd : oAt code pc (.invokevirtual index, 3) = true := by decide +kernel) (hfr : rm.frames + 1 ≤ R.frames := by decide) (hW : (st.map fun v => v.category).sum = W := by rfl) (hlo : W + (maxL' + 11) + rm.locals ≤ R.locals := by decide) (hce : cells + rm.cells ≤ R.cells := by decide) (hsl : slots + rm.slots ≤ R.slots := by decide) : Goes p l e R s m args below meth c Z a0 h0 hS ws rc rs Q H cells slots (mkF m pc Ls stk) := fun T locs Y N A => by
  subst hstk hW
  have NN := List.nodup_append.mp hN
  obtain ⟨cq, kq, qa, qb, qc⟩ := isOf (T := T) X.2.2.2.2.2.2.2 rfl (A.at hi).1
  obtain ⟨v, vm1, ⟨T', L', k', n'⟩, -, Y', ⟨Lc, ⟨N', F', hQ', B⟩, l', k'', n''⟩, st'⟩ := Y.virtualBack X.1 (y := y') (z := z') X.2.2.2.1 (mvT X.2.2.2.2.2.2.2 w1) (mvT X.2.2.2.2.2.2.2 w2) nf (mvT X.2.2.2.2.2.2.2 w5) (mvT X.2.2.2.2.2.2.2 w6) hy
    (backOf (W := (st.map fun v => v.category).sum) (Q := fun v h' L => Fr h0.size L ∧ ∃ F', Q' v F' ∧ Hp Z a0 h0 T.heap (F.map (·.1)) h' F') (D [] T.heap ((A.sub ix hF NN.1).enter)) X.2.2.2.2.2.2.2 w4 w3 hfr hlo) qa qc (g := mkF m pc Ls (argsL.reverse ++ .ref a :: st)) rfl (hsize.trans X.2.2.1.symm) (Steps.refl _) (argsL := argsL) (rest := st) (lenOf hpd hlen) rfl (by show 2 * 0 + _ ≤ _; omega) (hb X.2.1 (oAt.dec hd)) (fun _ _ => ⟨rfl, rfl, hce, hsl⟩)
  dsimp only [Pt.U, Pt.locs, Pt.cells, Pt.slots] at Y' l' k'' n'' st' B
  subst l' k'' n''
  exact (k v F' hQ' T' _ Y' (N.app N') (A.back hF hG hN B)).via fun t q => st'.trans q
theorem own_nf (X : Cx p s m meth c Z y code maxL ret) {C : String} {y' : MethodName} (w5 : (Jvm.Cond.selects C y' y').before a0 Z = true) : NotFace s y' := notFace_of_selects (args := #[]) (mvT X.2.2.2.2.2.2.2 w5)
end Goes
/-! ## own kit, part 4: arrays; objects that stood at the start -/
section Arrs
variable {p : Program} {l : Launch} {e : Env} {R : Room} {s : State} {m : MethodId} {args : Array Value} {below : List Frame} {meth : Method} {c : Code} {Z : State} {a0 : Array Value} {h0 hS : Heap} {ws : List Addr} {rc rs : Nat} {Q : Option Value → OHp → Prop} {H : OHp} {cells slots : Nat} {y : MethodName} {code : ByteArray} {maxL : Nat} {ret : Option FieldType} {pc : Nat} {Ls : Array Slot} {st : List Value}
theorem Goes.newarr (X : Cx p s m meth c Z y code maxL ret) {aty : ArrayType} {n : Int32} (D : String) (nn cap : Nat) (w : (Jvm.Cond.arrayClass (newarray.typeOf aty)).before a0 Z = true) (hD : "[" ++ (newarray.typeOf aty).toString = D) (hn : ¬ n < 0) (hnn : n.toNatClampNeg = nn) (k : ∀ a, Goes p l e R s m args below meth c Z a0 h0 hS ws rc rs Q (H ++ [(a, ar D (newarray.typeOf aty) (List.replicate nn (defaultValue (newarray.typeOf aty))))]) (cells + 1) (slots + cap) (mkF m (pc + 2) Ls (.ref a :: st))) (hd : oAt code pc (.newarray aty, 2) = true := by decide +kernel) (hcap : nn ≤ cap := by decide) (hb8 : cap * 8 ≤ 536870912 := by decide) (hc : cells + 1 ≤ R.cells := by decide) (hl : slots + cap ≤ R.slots := by decide) : Goes p l e R s m args below meth c Z a0 h0 hS ws rc rs Q H cells slots (mkF m pc Ls (.int n :: st)) := fun T locs Y N A => by
  have hZ := X.2.2.2.2.2.2.2
  have hcb : componentBytes (newarray.typeOf aty) ≤ 8 := by cases aty <;> decide
  subst hnn hD
  obtain ⟨cA, kA, comp, h1, h2, h3, Y', st'⟩ := Y.newarrayPrim X.1 (mvA hZ w) (g := mkF m pc Ls (.int n :: st)) rfl (hb X.2.1 (oAt.dec hd)) rfl hn (Nat.le_trans (Nat.mul_le_mul hcap hcb) hb8) hc (by omega)
  rw [hZ.alike.findClass] at h1
  obtain ⟨kZ, z1, -⟩ := Vm.findClass_spec h1
  obtain ⟨k', z2, z3⟩ := hZ.alike.2.2 _ _ z1
  cases h2.symm.trans z2
  refine (k T.heap.size _ locs (Y'.more (Nat.le_refl _) (by omega)) N ?_).via st'
  refine A.new (ext_of fun a q => Array.getElem?_push_lt q |>.trans (Array.getElem?_eq_getElem q).symm) ?_
  refine ⟨newA cA (newarray.typeOf aty) n, ⟨?_, ⟨by simp [newA], kZ, z1, comp, by rw [← h3, z3]⟩, by simp [newA]⟩, ?_, ?_, h1, ?_⟩
  · show (T.heap.push _)[T.heap.size]? = _; simp [newA]
  · simp [newA]
  · rw [List.length_replicate]; exact (back32 hn).2
  · intro v hv
    rw [List.eq_of_mem_replicate hv]
    cases aty <;> rfl
theorem Goes.anewarr (X : Cx p s m meth c Z y code maxL ret) {C : String} {index : Nat} {n : Int32} (D : String) (nn cap : Nat) (w : (Jvm.Cond.classLink y.cls index C).before a0 Z = true) (w2 : (Jvm.Cond.arrayOver (.object C)).before a0 Z = true) (hD : "[" ++ (FieldType.object C).toString = D) (hn : ¬ n < 0) (hnn : n.toNatClampNeg = nn) (k : ∀ a, Goes p l e R s m args below meth c Z a0 h0 hS ws rc rs Q (H ++ [(a, ar D (.object C) (List.replicate nn .null))]) (cells + 1) (slots + cap) (mkF m (pc + 3) Ls (.ref a :: st))) (hd : oAt code pc (.anewarray index, 3) = true := by decide +kernel) (hcap : nn ≤ cap := by decide) (hb8 : cap * 8 ≤ 536870912 := by decide) (hc : cells + 1 ≤ R.cells := by decide) (hl : slots + cap ≤ R.slots := by decide) : Goes p l e R s m args below meth c Z a0 h0 hS ws rc rs Q H cells slots (mkF m pc Ls (.int n :: st)) := fun T locs Y N A => by
  have hZ := X.2.2.2.2.2.2.2
  subst hnn hD
  have w2' : (Jvm.Cond.arrayOver (.object C)).before args s = true := Cond.arrayOver_alike hZ.alike w2
  obtain ⟨vm₁, cA, kA, comp, -, h1, h2, h3, h4, Y', st'⟩ := Y.anewarrayRefK X.1 X.2.2.2.1 (mv hZ w) w2' (g := mkF m pc Ls (.int n :: st)) rfl (hb X.2.1 (oAt.dec hd)) rfl hn (by omega) hc (by omega)
  rw [hZ.alike.findClass] at h1
  obtain ⟨kZ, z1, -⟩ := Vm.findClass_spec h1
  obtain ⟨k', z2, z3⟩ := hZ.alike.2.2 _ _ z1
  cases h2.symm.trans z2
  refine (k T.heap.size _ locs (Y'.more (Nat.le_refl _) (by omega)) N ?_).via st'
  refine A.new (ext_of fun a q => Array.getElem?_push_lt q |>.trans (Array.getElem?_eq_getElem q).symm) ?_
  refine ⟨newA cA (.object C) n, ⟨?_, ⟨by simp [newA], kZ, z1, comp, by rw [← h3, z3]⟩, by simp [newA]⟩, ?_, ?_, h1, ?_⟩
  · show (T.heap.push _)[T.heap.size]? = _; simp [newA, defaultValue]
  · simp [newA, defaultValue]
  · rw [List.length_replicate]; exact (back32 hn).2
  · intro v hv
    rw [List.eq_of_mem_replicate hv]; rfl
theorem own_inb {cl : Cell} {vs : List Value} {j : Int32} {jn : Nat} (hs : cl.slots = vs.toArray) (hj : j.toNatClampNeg = jn) (h0 : ¬ j < 0) (hlt : jn < vs.length) : ¬ (j < 0 ∨ cl.slots.size ≤ j.toNatClampNeg) := by
  subst hj; rw [hs]; simp only [List.size_toArray]; rintro (q | q)
  · exact h0 q
  · omega
theorem own_get {cl : Cell} {vs : List Value} {j : Int32} {jn : Nat} {v : Value} (hs : cl.slots = vs.toArray) (hj : j.toNatClampNeg = jn) (hv : vs[jn]? = some v) : cl.slots[j.toNatClampNeg]? = some v := by
  rw [hs, hj]; simpa using hv
theorem Goes.alen (X : Cx p s m meth c Z y code maxL ret) (i : Nat) {a : Addr} {D : String} {ty : FieldType} {vs : List Value} {n : Int32} (hi : H[i]? = some (a, ar D ty vs)) (hn : vs.length.toInt32 = n) (k : Goes p l e R s m args below meth c Z a0 h0 hS ws rc rs Q H cells slots (mkF m (pc + 1) Ls (.int n :: st))) (hd : oAt code pc (.arraylength, 1) = true := by decide +kernel) : Goes p l e R s m args below meth c Z a0 h0 hS ws rc rs Q H cells slots (mkF m pc Ls (.ref a :: st)) := fun T locs Y N A => by
  obtain ⟨cl, O, hs, -⟩ := A.at hi
  refine (k T locs Y N A).via fun t q => Y.arraylength X.1 O.1 (State.isArrayOf_alike X.2.2.2.2.2.2.2.alike O.2.1) (g := mkF m pc Ls (.ref a :: st)) rfl rfl (hb X.2.1 (oAt.dec hd)) t ?_
  rw [hs, List.size_toArray, hn]; exact q
theorem Goes.caload (X : Cx p s m meth c Z y code maxL ret) (i jn : Nat) {a : Addr} {D : String} {vs : List Value} {j : Int32} {v : Value} (hi : H[i]? = some (a, ar D .char vs)) (hj : j.toNatClampNeg = jn) (hj0 : ¬ j < 0) (hv : vs[jn]? = some v) (k : Goes p l e R s m args below meth c Z a0 h0 hS ws rc rs Q H cells slots (mkF m (pc + 1) Ls (v :: st))) (hd : oAt code pc (.caload, 1) = true := by decide +kernel) : Goes p l e R s m args below meth c Z a0 h0 hS ws rc rs Q H cells slots (mkF m pc Ls (.int j :: .ref a :: st)) := fun T locs Y N A => by
  obtain ⟨cl, O, hs, -⟩ := A.at hi
  exact (k T locs Y N A).via fun t q => Y.caload X.1 O.1 (State.isArrayOf_alike X.2.2.2.2.2.2.2.alike O.2.1) O.2.2 (own_inb hs hj hj0 (List.getElem?_eq_some_iff.mp hv).1) (own_get hs hj hv) (g := mkF m pc Ls (.int j :: .ref a :: st)) rfl rfl (hb X.2.1 (oAt.dec hd)) t q
theorem Goes.baload (X : Cx p s m meth c Z y code maxL ret) (i jn : Nat) {a : Addr} {D : String} {vs : List Value} {j : Int32} {v : Value} (hi : H[i]? = some (a, ar D .byte vs)) (hj : j.toNatClampNeg = jn) (hj0 : ¬ j < 0) (hv : vs[jn]? = some v) (k : Goes p l e R s m args below meth c Z a0 h0 hS ws rc rs Q H cells slots (mkF m (pc + 1) Ls (v :: st))) (hd : oAt code pc (.baload, 1) = true := by decide +kernel) : Goes p l e R s m args below meth c Z a0 h0 hS ws rc rs Q H cells slots (mkF m pc Ls (.int j :: .ref a :: st)) := fun T locs Y N A => by
  obtain ⟨cl, O, hs, -⟩ := A.at hi
  exact (k T locs Y N A).via fun t q => Y.baloadBytes X.1 O.1 (State.isArrayOf_alike X.2.2.2.2.2.2.2.alike O.2.1) O.2.2 (own_inb hs hj hj0 (List.getElem?_eq_some_iff.mp hv).1) (own_get hs hj hv) (g := mkF m pc Ls (.int j :: .ref a :: st)) rfl rfl (hb X.2.1 (oAt.dec hd)) t q
theorem Goes.aaload (X : Cx p s m meth c Z y code maxL ret) (i jn : Nat) {a : Addr} {D : String} {ty : FieldType} {vs : List Value} {j : Int32} {v : Value} (hi : H[i]? = some (a, ar D ty vs)) (hty : ty.isReference = true) (hj : j.toNatClampNeg = jn) (hj0 : ¬ j < 0) (hv : vs[jn]? = some v) (k : Goes p l e R s m args below meth c Z a0 h0 hS ws rc rs Q H cells slots (mkF m (pc + 1) Ls (v :: st))) (hd : oAt code pc (.aaload, 1) = true := by decide +kernel) : Goes p l e R s m args below meth c Z a0 h0 hS ws rc rs Q H cells slots (mkF m pc Ls (.int j :: .ref a :: st)) := fun T locs Y N A => by
  obtain ⟨cl, O, hs, -⟩ := A.at hi
  exact (k T locs Y N A).via fun t q => Y.aaload X.1 O.1 (State.isArrayOf_alike X.2.2.2.2.2.2.2.alike O.2.1) hty O.2.2 (own_inb hs hj hj0 (List.getElem?_eq_some_iff.mp hv).1) (own_get hs hj hv) (g := mkF m pc Ls (.int j :: .ref a :: st)) rfl rfl (hb X.2.1 (oAt.dec hd)) t q
theorem Goes.castore (X : Cx p s m meth c Z y code maxL ret) (i jn : Nat) {a : Addr} {D : String} {vs : List Value} {j x : Int32} (hi : H[i]? = some (a, ar D .char vs)) (hj : j.toNatClampNeg = jn) (hj0 : ¬ j < 0) (hlt : jn < vs.length) (k : Goes p l e R s m args below meth c Z a0 h0 hS ws rc rs Q (H.set i (a, ar D .char (vs.set jn (.int (nar .char x))))) cells slots (mkF m (pc + 1) Ls st)) (hd : oAt code pc (.castore, 1) = true := by decide +kernel) : Goes p l e R s m args below meth c Z a0 h0 hS ws rc rs Q H cells slots (mkF m pc Ls (.int x :: .int j :: .ref a :: st)) := fun T locs Y N A => by
  have O := A.at hi
  obtain ⟨cl, O1, hs, -⟩ := A.at hi
  subst hj
  obtain ⟨T', h', Y', e', W, st'⟩ := stC Y X.1 X.2.2.2.2.2.2.2 rfl O1 (own_inb hs rfl hj0 hlt) (g := mkF m pc Ls (.int x :: .int j :: .ref a :: st)) rfl rfl (hb X.2.1 (oAt.dec hd))
  refine (k T' _ Y' (Fr.snoc Y' N (A.2.2.1 i _ hi).1) ?_).via st'
  rw [e']
  exact A.wr hi W (OKa.store O W (fits_nar_char x))
theorem Goes.bastore (X : Cx p s m meth c Z y code maxL ret) (i jn : Nat) {a : Addr} {D : String} {vs : List Value} {j x : Int32} (hi : H[i]? = some (a, ar D .byte vs)) (hj : j.toNatClampNeg = jn) (hj0 : ¬ j < 0) (hlt : jn < vs.length) (k : Goes p l e R s m args below meth c Z a0 h0 hS ws rc rs Q (H.set i (a, ar D .byte (vs.set jn (.int (nar .byte x))))) cells slots (mkF m (pc + 1) Ls st)) (hd : oAt code pc (.bastore, 1) = true := by decide +kernel) : Goes p l e R s m args below meth c Z a0 h0 hS ws rc rs Q H cells slots (mkF m pc Ls (.int x :: .int j :: .ref a :: st)) := fun T locs Y N A => by
  have O := A.at hi
  obtain ⟨cl, O1, hs, -⟩ := A.at hi
  subst hj
  obtain ⟨T', h', Y', e', W, st'⟩ := stB Y X.1 X.2.2.2.2.2.2.2 rfl O1 (own_inb hs rfl hj0 hlt) (g := mkF m pc Ls (.int x :: .int j :: .ref a :: st)) rfl rfl (hb X.2.1 (oAt.dec hd))
  refine (k T' _ Y' (Fr.snoc Y' N (A.2.2.1 i _ hi).1) ?_).via st'
  rw [e']
  exact A.wr hi W (OKa.store O W (fits_nar_byte x))
theorem own_fitC {h : Heap} {a : Addr} {cl : Cell} {ty : FieldType} {vs : List Value} (O : Arr Z h a cl ty) (hs : cl.slots = vs.toArray) (hv : ∀ v ∈ vs, fits ty v = true) : FitC Z cl := fun i v q => by
  obtain ⟨-, k, hk, comp, hkind⟩ := O.2.1
  rw [hs] at q
  have q2 : v ∈ vs := List.mem_of_getElem? (by simpa using q)
  simp [State.fitsSlot, State.slotType?, hk, hkind, hv v q2]
theorem Goes.clone (X : Cx p s m meth c Z y code maxL ret) {index : Nat} (W : Nat) (i : Nat) (cap : Nat) {a : Addr} {D : String} {ty : FieldType} {vs : List Value} (w1 : (Jvm.Cond.methodLink y.cls index ⟨D, "clone", "()Ljava/lang/Object;"⟩).before a0 Z = true) (w2 : (Jvm.Cond.sameMethod D "java/lang/Object" "clone" "()Ljava/lang/Object;").before a0 Z = true) (w3 : (Jvm.Cond.native ⟨"java/lang/Object", "clone", "()Ljava/lang/Object;"⟩).before a0 Z = true) (w4 : (Jvm.Cond.instanceMethod ⟨"java/lang/Object", "clone", "()Ljava/lang/Object;"⟩).before a0 Z = true) (w5 : (Jvm.Cond.selects D ⟨D, "clone", "()Ljava/lang/Object;"⟩ ⟨"java/lang/Object", "clone", "()Ljava/lang/Object;"⟩).before a0 Z = true) (w6 : (Jvm.Cond.castable D "java/lang/Cloneable").before a0 Z = true) (hi : H[i]? = some (a, ar D ty vs)) (hsize : Ls.size = maxL) (k : ∀ b, Goes p l e R s m args below meth c Z a0 h0 hS ws rc rs Q (H ++ [(b, ar D ty vs)]) (cells + 1) (slots + cap) (mkF m (pc + 3) Ls (.ref b :: st))) (hd : oAt code pc (.invokevirtual index, 3) = true := by decide +kernel) (hf : 1 ≤ R.frames := by decide) (hW : (st.map fun v => v.category).sum = W := by rfl) (hl : W + 14 ≤ R.locals := by decide) (hcap : vs.length ≤ cap := by decide) (hc : cells + 1 ≤ R.cells := by decide) (hsl : slots + cap ≤ R.slots := by decide) : Goes p l e R s m args below meth c Z a0 h0 hS ws rc rs Q H cells slots (mkF m pc Ls (.ref a :: st)) := fun T locs Y N A => by
  have E := (A.at hi : OKa Z T.heap a D ty vs).exa
  obtain ⟨cl, O1, hs, hlen, hfc, hv⟩ := A.at hi
  subst hW
  obtain ⟨T', h', Y', e', E', A', X', st'⟩ := cloneA Y X.1 X.2.2.2.2.2.2.2 X.2.2.2.1 w1 w2 w3 w4 w5 w6 rfl O1 E (own_fitC O1 hs hv) (g := mkF m pc Ls (.ref a :: st)) rfl (hsize.trans X.2.2.1.symm) rfl (hb X.2.1 (oAt.dec hd)) hf (W := (st.map fun v => v.category).sum) (cap := cap) (by show 2 * 0 + _ ≤ _; omega) hl (by rw [hs, List.size_toArray]; exact hcap) hc hsl
  refine (k T.heap.size T' locs Y' N ?_).via st'
  rw [e']
  exact A.new E' ⟨_, A', hs, hlen, hfc, hv⟩
theorem Goes.castA (X : Cx p s m meth c Z y code maxL ret) {K : String} {index : Nat} (i : Nat) {a : Addr} {D : String} {ty : FieldType} {vs : List Value} (w : (Jvm.Cond.classLink y.cls index K).before a0 Z = true) (wc : (Jvm.Cond.castable D K).before a0 Z = true) (hi : H[i]? = some (a, ar D ty vs)) (k : Goes p l e R s m args below meth c Z a0 h0 hS ws rc rs Q H cells slots (mkF m (pc + 3) Ls (.ref a :: st))) (hd : oAt code pc (.checkcast index, 3) = true := by decide +kernel) : Goes p l e R s m args below meth c Z a0 h0 hS ws rc rs Q H cells slots (mkF m pc Ls (.ref a :: st)) := fun T locs Y N A => by
  have E := (A.at hi : OKa Z T.heap a D ty vs).exa
  obtain ⟨T', Y', e', st'⟩ := castY Y X.1 X.2.2.2.2.2.2.2 X.2.2.2.1 w rfl (Ins.of_exa E wc) (g := mkF m pc Ls (.ref a :: st)) rfl rfl (hb X.2.1 (oAt.dec hd))
  exact (k T' locs Y' N (by rw [e']; exact A)).via st'
theorem Goes.castO (X : Cx p s m meth c Z y code maxL ret) {K : String} {index : Nat} (i : Nat) {a : Addr} {C : String} {fs : List OFld} (w : (Jvm.Cond.classLink y.cls index K).before a0 Z = true) (wc : (Jvm.Cond.castable C K).before a0 Z = true) (hi : H[i]? = some (a, ob C fs)) (k : Goes p l e R s m args below meth c Z a0 h0 hS ws rc rs Q H cells slots (mkF m (pc + 3) Ls (.ref a :: st))) (hd : oAt code pc (.checkcast index, 3) = true := by decide +kernel) : Goes p l e R s m args below meth c Z a0 h0 hS ws rc rs Q H cells slots (mkF m pc Ls (.ref a :: st)) := fun T locs Y N A => by
  obtain ⟨T', Y', e', st'⟩ := castY Y X.1 X.2.2.2.2.2.2.2 X.2.2.2.1 w rfl (Ins.of_exa (A.at hi).1 wc) (g := mkF m pc Ls (.ref a :: st)) rfl rfl (hb X.2.1 (oAt.dec hd))
  exact (k T' locs Y' N (by rw [e']; exact A)).via st'
/-- a field of an object that stood at the start -/
theorem Goes.getFo (X : Cx p s m meth c Z y code maxL ret) {R0 O n d : String} {index : Nat} {a : Addr} {v : Value} (w : (Jvm.Cond.fieldLink y.cls index R0 n d).before a0 Z = true) (via : Via Z R0 O n d) (F : Fld Z h0 a O n d v) (k : Goes p l e R s m args below meth c Z a0 h0 hS ws rc rs Q H cells slots (mkF m (pc + 3) Ls (v :: st))) (hd : oAt code pc (.getfield index, 3) = true := by decide +kernel) : Goes p l e R s m args below meth c Z a0 h0 hS ws rc rs Q H cells slots (mkF m pc Ls (.ref a :: st)) := fun T locs Y N A => by
  obtain ⟨T', Y', e', st'⟩ := RoadKit.getF Y X.1 X.2.2.2.2.2.2.2 (host := "") X.2.2.2.1 (Or.inl w) via rfl (F.ext A.1) (g := mkF m pc Ls (.ref a :: st)) rfl rfl (hb X.2.1 (oAt.dec hd))
  exact (k T' locs Y' N (by rw [e']; exact A)).via st'
/-- a virtual call on an object that stood at the start -/
theorem Goes.callVo (X : Cx p s m meth c Z y code maxL ret) {index : Nat} {y' z' : MethodName} {code' : ByteArray} {maxL' : Nat} {ret' : Option FieldType} {rm : Room} {argsL : List Value} {a : Addr} {C : String} {F G : OHp} {Q' : Option Value → OHp → Prop} (W : Nat) (ix rx : List Nat) (E : Exa Z h0 a C) (D : Does l Z a0 h0 z' code' maxL' ret' rm (.ref a :: argsL).toArray F Q') (w1 : (Jvm.Cond.methodLink y.cls index y').before a0 Z = true) (w2 : (Jvm.Cond.declares y').before a0 Z = true) (w5 : (Jvm.Cond.selects C y' z').before a0 Z = true) (w6 : (Jvm.Cond.instanceMethod z').before a0 Z = true) (nf : NotFace s y') (w3 : (Jvm.Cond.initialized z'.cls).before a0 Z = true) (w4 : (Jvm.Cond.code z' code' maxL' ret').before a0 Z = true) {ps : List FieldType} {r : Option FieldType} (hpd : parseMethodDescriptor y'.desc = some ⟨ps, r⟩) (hlen : argsL.length = ps.length) {stk : List Value} (hstk : stk = argsL.reverse ++ .ref a :: st) (hsize : Ls.size = maxL) (hF : ix.map (fun i => H[i]?) = F.map some) (hG : rx.map (fun i => H[i]?) = G.map some) (k : ∀ v F', Q' v F' → Goes p l e R s m args below meth c Z a0 h0 hS ws rc rs Q (F' ++ G) (cells + rm.cells) (slots + rm.slots) (mkF m (pc + 3) Ls (v.toList ++ st))) (hy : y'.cls ≠ "java/lang/invoke/MethodHandle" ∧ y'.cls ≠ "java/lang/invoke/VarHandle" := by decide) (hN : (ix ++ rx).Nodup := by decide) (hd : oAt code pc (.invokevirtual index, 3) = true := by decide +kernel) (hfr : rm.frames + 1 ≤ R.frames := by decide) (hW : (st.map fun v => v.category).sum = W := by rfl) (hlo : W + (maxL' + 11) + rm.locals ≤ R.locals := by decide) (hce : cells + rm.cells ≤ R.cells := by decide) (hsl : slots + rm.slots ≤ R.slots := by decide) : Goes p l e R s m args below meth c Z a0 h0 hS ws rc rs Q H cells slots (mkF m pc Ls stk) := fun T locs Y N A => by
  subst hstk hW
  have NN := List.nodup_append.mp hN
  obtain ⟨cq, kq, qa, qb, qc⟩ := isOf (T := T) X.2.2.2.2.2.2.2 rfl (E.ext A.1)
  obtain ⟨v, vm1, ⟨T', L', k', n'⟩, -, Y', ⟨Lc, ⟨N', F', hQ', B⟩, l', k'', n''⟩, st'⟩ := Y.virtualBack X.1 (y := y') (z := z') X.2.2.2.1 (mvT X.2.2.2.2.2.2.2 w1) (mvT X.2.2.2.2.2.2.2 w2) nf (mvT X.2.2.2.2.2.2.2 w5) (mvT X.2.2.2.2.2.2.2 w6) hy
    (backOf (W := (st.map fun v => v.category).sum) (Q := fun v h' L => Fr h0.size L ∧ ∃ F', Q' v F' ∧ Hp Z a0 h0 T.heap (F.map (·.1)) h' F') (D [] T.heap ((A.sub ix hF NN.1).enter)) X.2.2.2.2.2.2.2 w4 w3 hfr hlo) qa qc (g := mkF m pc Ls (argsL.reverse ++ .ref a :: st)) rfl (hsize.trans X.2.2.1.symm) (Steps.refl _) (argsL := argsL) (rest := st) (lenOf hpd hlen) rfl (by show 2 * 0 + _ ≤ _; omega) (hb X.2.1 (oAt.dec hd)) (fun _ _ => ⟨rfl, rfl, hce, hsl⟩)
  dsimp only [Pt.U, Pt.locs, Pt.cells, Pt.slots] at Y' l' k'' n'' st' B
  subst l' k'' n''
  exact (k v F' hQ' T' _ Y' (N.app N') (A.back hF hG hN B)).via fun t q => st'.trans q
end Arrs
/-! ## own kit, part 5: own, interface and nest calls -/
section Calls
variable {p : Program} {l : Launch} {e : Env} {R : Room} {s : State} {m : MethodId} {args : Array Value} {below : List Frame} {meth : Method} {c : Code} {Z : State} {a0 : Array Value} {h0 hS : Heap} {ws : List Addr} {rc rs : Nat} {Q : Option Value → OHp → Prop} {H : OHp} {cells slots : Nat} {y : MethodName} {code : ByteArray} {maxL : Nat} {ret : Option FieldType} {pc : Nat} {Ls : Array Slot} {st : List Value}
theorem nf_inst (X : Cx p s m meth c Z y code maxL ret) {y' : MethodName} {n : Nat} (w : (Jvm.Cond.instantiable y'.cls n).before a0 Z = true) : NotFace s y' := fun r0 hn => by
  obtain ⟨c2, k2, i1, i2, -, i4, -⟩ := Cond.instantiable_spec (mvT (args := #[]) X.2.2.2.2.2.2.2 w)
  have hc := findClass_of_methodNamed hn
  cases hc.symm.trans i1
  refine ⟨k2, i2, ?_⟩
  cases q : k2.isInterface
  · rfl
  · rw [q] at i4; cases i4
theorem Goes.callP (X : Cx p s m meth c Z y code maxL ret) {index : Nat} {y' : MethodName} {code' : ByteArray} {maxL' : Nat} {ret' : Option FieldType} {rm : Room} {argsL : List Value} {a : Addr} {C : String} {F G : OHp} {Q' : Option Value → OHp → Prop} (W : Nat) (i : Nat) (ix rx : List Nat) {fs : List OFld} (hi : H[i]? = some (a, ob C fs)) (D : Does l Z a0 h0 y' code' maxL' ret' rm (.ref a :: argsL).toArray F Q') (w1 : (Jvm.Cond.methodLink y.cls index y').before a0 Z = true) (w2 : (Jvm.Cond.instanceMethod y').before a0 Z = true) (w5 : (Jvm.Cond.privateMethod y').before a0 Z = true) (nf : NotFace s y') (w3 : (Jvm.Cond.initialized y'.cls).before a0 Z = true) (w4 : (Jvm.Cond.code y' code' maxL' ret').before a0 Z = true) {ps : List FieldType} {r : Option FieldType} (hpd : parseMethodDescriptor y'.desc = some ⟨ps, r⟩) (hlen : argsL.length = ps.length) {stk : List Value} (hstk : stk = argsL.reverse ++ .ref a :: st) (hsize : Ls.size = maxL) (hF : ix.map (fun i => H[i]?) = F.map some) (hG : rx.map (fun i => H[i]?) = G.map some) (k : ∀ v F', Q' v F' → Goes p l e R s m args below meth c Z a0 h0 hS ws rc rs Q (F' ++ G) (cells + rm.cells) (slots + rm.slots) (mkF m (pc + 3) Ls (v.toList ++ st))) (hy : y'.cls ≠ "java/lang/invoke/MethodHandle" ∧ y'.cls ≠ "java/lang/invoke/VarHandle" := by decide) (hN : (ix ++ rx).Nodup := by decide) (hd : oAt code pc (.invokevirtual index, 3) = true := by decide +kernel) (hfr : rm.frames + 1 ≤ R.frames := by decide) (hW : (st.map fun v => v.category).sum = W := by rfl) (hlo : W + (maxL' + 11) + rm.locals ≤ R.locals := by decide) (hce : cells + rm.cells ≤ R.cells := by decide) (hsl : slots + rm.slots ≤ R.slots := by decide) : Goes p l e R s m args below meth c Z a0 h0 hS ws rc rs Q H cells slots (mkF m pc Ls stk) := fun T locs Y N A => by
  subst hstk hW
  have NN := List.nodup_append.mp hN
  have hZ := X.2.2.2.2.2.2.2
  obtain ⟨cell, hcell, hobj⟩ := (A.at hi : OKo Z a0 T.heap a C fs).1.cell
  obtain ⟨mk, methM, hnamed, hmethM, hstM, habM⟩ := Cond.instanceMethod_spec (mvT (args := args) hZ w2)
  obtain ⟨methM', cM, hmethM', -, -, -, -, -, -, hsigM⟩ := Cond.code_spec hnamed (mvT (args := args) hZ w4)
  cases hmethM.symm.trans hmethM'
  obtain ⟨kP, hkP, hkPi⟩ := nf mk hnamed
  have hpriv : s.PrivateAt y' := Cond.privateMethod_at (mvP hZ w5 (args := #[]))
  have hselP : selectMethod e.platform s.vm cell.cls mk = .method mk := selectMethod_private hmethM (hpriv mk methM hnamed hmethM)
  obtain ⟨vm₁, X₁, hstep₁⟩ := Y.invokevirtual X.1 X.2.2.2.1 (mvT (args := args) hZ w1) hnamed hmethM hstM hkP hkPi hy (a := a) (cell := cell) hcell hobj hselP hmethM habM hkP hkPi (g := mkF m pc Ls (argsL.reverse ++ .ref a :: st)) rfl (argsL := argsL) (rest := st) (lenOf hpd hlen _ hsigM) rfl (hb X.2.1 (oAt.dec hd))
  obtain ⟨v, ⟨T', L', k', n'⟩, Y', ⟨Lc, ⟨N', F', hQ', B⟩, l', k'', n''⟩, st'⟩ := (backOf (args := args) (W := (st.map fun v => v.category).sum) (Q := fun v h' L => Fr h0.size L ∧ ∃ F', Q' v F' ∧ Hp Z a0 h0 T.heap (F.map (·.1)) h' F') (D [] T.heap ((A.sub ix hF NN.1).enter)) hZ w4 w3 hfr hlo) m meth c ⟨T.setVm vm₁, locs, cells, slots⟩ (mkF m pc Ls st) (.invokevirtual index) mk (.ref a :: argsL).toArray X₁ rfl (hsize.trans X.2.2.1.symm) (hb X.2.1 (oAt.dec hd)) (by show 2 * 0 + (st.map fun v => v.category).sum ≤ _; omega) (X₁.named hnamed) ⟨rfl, rfl, hce, hsl⟩
  dsimp only [Pt.U, Pt.locs, Pt.cells, Pt.slots] at Y' l' k'' n'' st' B
  subst l' k'' n''
  exact (k v F' hQ' T' _ Y' (N.app N') (A.back hF hG hN B)).via fun t q => (hstep₁ _ fun acts => by rw [doInvoke_state]; exact Steps.refl _).trans (st'.trans q)
theorem Goes.callI (X : Cx p s m meth c Z y code maxL ret) {index count : Nat} {xi z' : MethodName} {code' : ByteArray} {maxL' : Nat} {ret' : Option FieldType} {rm : Room} {argsL : List Value} {a : Addr} {C : String} {F G : OHp} {Q' : Option Value → OHp → Prop} (W : Nat) (i : Nat) (ix rx : List Nat) {fs : List OFld} (hi : H[i]? = some (a, ob C fs)) (D : Does l Z a0 h0 z' code' maxL' ret' rm (.ref a :: argsL).toArray F Q') (w1 : (Jvm.Cond.methodLink y.cls index xi).before a0 Z = true) (w2 : (Jvm.Cond.declares xi).before a0 Z = true) (w5 : (Jvm.Cond.interfaceMethod xi.cls xi.cls xi.name xi.desc).before a0 Z = true) (w6 : (Jvm.Cond.selects C xi z').before a0 Z = true) (w7 : (Jvm.Cond.instanceMethod z').before a0 Z = true) (w8 : (Jvm.Cond.publicMethod z').before a0 Z = true) (w9 : (Jvm.Cond.unhidden C xi.name xi.desc).before a0 Z = true) (w10 : (Jvm.Cond.castable C xi.cls).before a0 Z = true) (w3 : (Jvm.Cond.initialized z'.cls).before a0 Z = true) (w4 : (Jvm.Cond.code z' code' maxL' ret').before a0 Z = true) {ps : List FieldType} {r : Option FieldType} (hpd : parseMethodDescriptor xi.desc = some ⟨ps, r⟩) (hlen : argsL.length = ps.length) {stk : List Value} (hstk : stk = argsL.reverse ++ .ref a :: st) (hsize : Ls.size = maxL) (hF : ix.map (fun i => H[i]?) = F.map some) (hG : rx.map (fun i => H[i]?) = G.map some) (k : ∀ v F', Q' v F' → Goes p l e R s m args below meth c Z a0 h0 hS ws rc rs Q (F' ++ G) (cells + rm.cells) (slots + rm.slots) (mkF m (pc + 5) Ls (v.toList ++ st))) (hy : xi.cls ≠ "java/lang/invoke/MethodHandle" ∧ xi.cls ≠ "java/lang/invoke/VarHandle" := by decide) (hN : (ix ++ rx).Nodup := by decide) (hfc : ((Jvm.Cond.interfaceMethod xi.cls xi.cls xi.name xi.desc).onTables && (Jvm.Cond.interfaceMethod xi.cls xi.cls xi.name xi.desc).keepsFace) = true := by rfl) (hd : oAt code pc (.invokeinterface index count, 5) = true := by decide +kernel) (hfr : rm.frames + 1 ≤ R.frames := by decide) (hW : (st.map fun v => v.category).sum = W := by rfl) (hlo : W + (maxL' + 11) + rm.locals ≤ R.locals := by decide) (hce : cells + rm.cells ≤ R.cells := by decide) (hsl : slots + rm.slots ≤ R.slots := by decide) : Goes p l e R s m args below meth c Z a0 h0 hS ws rc rs Q H cells slots (mkF m pc Ls stk) := fun T locs Y N A => by
  subst hstk hW
  have NN := List.nodup_append.mp hN
  have hZ := X.2.2.2.2.2.2.2
  obtain ⟨cq, kq, qa, qb, qc⟩ := isOf (T := T) hZ rfl (A.at hi).1
  obtain ⟨v, vm1, ⟨T', L', k', n'⟩, -, Y', ⟨Lc, ⟨N', F', hQ', B⟩, l', k'', n''⟩, st'⟩ := Y.interfaceBack X.1 (xi := xi) (y := z') X.2.2.2.1 (mvT hZ w1) (mvT hZ w2) (mvT hZ w5 hfc) (mvT hZ w6) (mvT hZ w7) (mvT hZ w8) (mvT hZ w9) (mvT hZ w10) hy
    (backOf (W := (st.map fun v => v.category).sum) (Q := fun v h' L => Fr h0.size L ∧ ∃ F', Q' v F' ∧ Hp Z a0 h0 T.heap (F.map (·.1)) h' F') (D [] T.heap ((A.sub ix hF NN.1).enter)) hZ w4 w3 hfr hlo) qa qb qc (g := mkF m pc Ls (argsL.reverse ++ .ref a :: st)) rfl (hsize.trans X.2.2.1.symm) (Steps.refl _) (argsL := argsL) (rest := st) (lenOf hpd hlen) rfl (by show 2 * 0 + _ ≤ _; omega) (hb X.2.1 (oAt.dec hd)) (fun _ _ => ⟨rfl, rfl, hce, hsl⟩)
  dsimp only [Pt.U, Pt.locs, Pt.cells, Pt.slots] at Y' l' k'' n'' st' B
  subst l' k'' n''
  exact (k v F' hQ' T' _ Y' (N.app N') (A.back hF hG hN B)).via fun t q => st'.trans q
theorem Goes.callSN (X : Cx p s m meth c Z y code maxL ret) {index : Nat} {host : String} {y' : MethodName} {code' : ByteArray} {maxL' : Nat} {ret' : Option FieldType} {rm : Room} {argsL : List Value} {F G : OHp} {Q' : Option Value → OHp → Prop} (W : Nat) (ix rx : List Nat) (D : Does l Z a0 h0 y' code' maxL' ret' rm argsL.toArray F Q') (w1 : (Jvm.Cond.methodLinkNest y.cls index y' host).before a0 Z = true) (w2 : (Jvm.Cond.static y').before a0 Z = true) (w3 : (Jvm.Cond.initialized y'.cls).before a0 Z = true) (w4 : (Jvm.Cond.code y' code' maxL' ret').before a0 Z = true) {ps : List FieldType} {r : Option FieldType} (hpd : parseMethodDescriptor y'.desc = some ⟨ps, r⟩) (hlen : argsL.length = ps.length) {stk : List Value} (hstk : stk = argsL.reverse ++ st) (hsize : Ls.size = maxL) (hF : ix.map (fun i => H[i]?) = F.map some) (hG : rx.map (fun i => H[i]?) = G.map some) (k : ∀ v F', Q' v F' → Goes p l e R s m args below meth c Z a0 h0 hS ws rc rs Q (F' ++ G) (cells + rm.cells) (slots + rm.slots) (mkF m (pc + 3) Ls (v.toList ++ st))) (hy : y'.cls ≠ "java/lang/invoke/MethodHandle" ∧ y'.cls ≠ "java/lang/invoke/VarHandle" := by decide) (hN : (ix ++ rx).Nodup := by decide) (hd : oAt code pc (.invokestatic index, 3) = true := by decide +kernel) (hfr : rm.frames + 1 ≤ R.frames := by decide) (hW : (st.map fun v => v.category).sum = W := by rfl) (hlo : W + (maxL' + 11) + rm.locals ≤ R.locals := by decide) (hce : cells + rm.cells ≤ R.cells := by decide) (hsl : slots + rm.slots ≤ R.slots := by decide) : Goes p l e R s m args below meth c Z a0 h0 hS ws rc rs Q H cells slots (mkF m pc Ls stk) := fun T locs Y N A => by
  subst hstk hW
  have NN := List.nodup_append.mp hN
  have hZ := X.2.2.2.2.2.2.2
  obtain ⟨v, vm1, ⟨T', L', k', n'⟩, -, Y', ⟨Lc, ⟨N', F', hQ', B⟩, l', k'', n''⟩, st'⟩ := RoadKit.callSN Y X.1 (y := y') X.2.2.2.1 (Cond.methodLinkNest_wide hZ w1 :) (mvT hZ w2) (mvT hZ w3) (mvT hZ w4) hy
    (backOf (W := (st.map fun v => v.category).sum) (Q := fun v h' L => Fr h0.size L ∧ ∃ F', Q' v F' ∧ Hp Z a0 h0 T.heap (F.map (·.1)) h' F') (D [] T.heap ((A.sub ix hF NN.1).enter)) hZ w4 w3 hfr hlo) (g := mkF m pc Ls (argsL.reverse ++ st)) rfl (hsize.trans X.2.2.1.symm) (argsL := argsL) (rest := st) (lenOf hpd hlen) rfl (by show 2 * 0 + _ ≤ _; omega) (hb X.2.1 (oAt.dec hd)) (fun _ _ => ⟨rfl, rfl, hce, hsl⟩)
  dsimp only [Pt.U, Pt.locs, Pt.cells, Pt.slots] at Y' l' k'' n'' st' B
  subst l' k'' n''
  exact (k v F' hQ' T' _ Y' (N.app N') (A.back hF hG hN B)).via fun t q => st'.trans q
end Calls
section More
variable {p : Program} {l : Launch} {e : Env} {R : Room} {s : State} {m : MethodId} {args : Array Value} {below : List Frame} {meth : Method} {c : Code} {Z : State} {a0 : Array Value} {h0 hS : Heap} {ws : List Addr} {rc rs : Nat} {Q : Option Value → OHp → Prop} {H : OHp} {cells slots : Nat} {y : MethodName} {code : ByteArray} {maxL : Nat} {ret : Option FieldType} {pc : Nat} {Ls : Array Slot} {st : List Value}
theorem Goes.ldcJ (X : Cx p s m meth c Z y code maxL ret) {index : Nat} {v : Int64} (w : (Jvm.Cond.constantLong y.cls index v).before a0 Z = true) (k : Goes p l e R s m args below meth c Z a0 h0 hS ws rc rs Q H cells slots (mkF m (pc + 3) Ls (.long v :: st))) (hd : oAt code pc (.ldc2_w index, 3) = true := by decide +kernel) : Goes p l e R s m args below meth c Z a0 h0 hS ws rc rs Q H cells slots (mkF m pc Ls st) := fun T locs Y N A =>
  (k T locs Y N A).via fun t r => Y.ldc2J X.1 X.2.2.2.1 (mvT X.2.2.2.2.2.2.2 w) rfl (hb X.2.1 (oAt.dec hd)) r
/-- 'b ? 1 : 0' as javac writes it -/
theorem Goes.bool1 (X : Cx p s m meth c Z y code maxL ret) {cd : ClassFile.Cond} {o o2 : Int} {pc' pc2 : Nat} {x : Int32} (h1 : oAt code (pc + 3) (.iconst 1, 1) = true) (h2 : oAt code (pc + 4) (.goto o2, 3) = true) (h3 : oAt code pc' (.iconst 0, 1) = true) (h4 : pc' + 1 = pc2) (k : ∀ b : Int32, b = (if ifCond.holds cd x = true then 0 else 1) → Goes p l e R s m args below meth c Z a0 h0 hS ws rc rs Q H cells slots (mkF m pc2 Ls (.int b :: st))) (hd : oAt code pc (.ifCond cd o, 3) = true := by decide +kernel) (ho : 0 ≤ (pc : Int) + o := by decide) (hp : ((pc : Int) + o).toNat = pc' := by decide) (ho2 : 0 ≤ ((pc + 4 : Nat) : Int) + o2 := by decide) (hp2 : (((pc + 4 : Nat) : Int) + o2).toNat = pc2 := by decide) : Goes p l e R s m args below meth c Z a0 h0 hS ws rc rs Q H cells slots (mkF m pc Ls (.int x :: st)) := by
  subst h4
  refine Goes.if1 X (fun q => ?_) (fun q => ?_) hd ho hp
  · exact Goes.run X [(.iconst 0, 1)] rfl (k 0 (by rw [if_pos q])) (by simp [oBlk, h3]) rfl
  · exact Goes.run X [(.iconst 1, 1)] rfl (Goes.goto X (k 1 (by rw [if_neg (by rw [q]; simp)])) h2 ho2 hp2) (by simp [oBlk, h1]) rfl
end More
section Up
variable {p : Program} {l : Launch} {e : Env} {R : Room} {s : State} {m : MethodId} {args : Array Value} {below : List Frame} {meth : Method} {c : Code} {Z : State} {a0 : Array Value} {h0 hS : Heap} {ws : List Addr} {rc rs : Nat} {Q : Option Value → OHp → Prop} {H : OHp} {cells slots : Nat} {y : MethodName} {code : ByteArray} {maxL : Nat} {ret : Option FieldType} {pc : Nat} {Ls : Array Slot} {st : List Value}
theorem Goes.tsw (X : Cx p s m meth c Z y code maxL ret) {dflt low high : Int} {offs : Array Int} {len pc' : Nat} {o : Int} {i : Int32} (hin : ¬ (i.toInt < low ∨ i.toInt > high)) (hoff : offs[(i.toInt - low).toNat]? = some o) (k : Goes p l e R s m args below meth c Z a0 h0 hS ws rc rs Q H cells slots (mkF m pc' Ls st)) (hd : oAt code pc (.tableswitch dflt low high offs, len) = true := by decide +kernel) (ho : 0 ≤ (pc : Int) + o := by decide) (hp : ((pc : Int) + o).toNat = pc' := by decide) : Goes p l e R s m args below meth c Z a0 h0 hS ws rc rs Q H cells slots (mkF m pc Ls (.int i :: st)) := fun T locs Y N A =>
  (k T locs Y N A).via fun t r => XS.tswIn Y.here X.1 rfl (pc0 := pc) rfl (hb X.2.1 (oAt.dec hd)) rfl hin hoff ho hp r
/-- super.m(..) -/
theorem Goes.callU (X : Cx p s m meth c Z y code maxL ret) {index : Nat} {y' : MethodName} {code' : ByteArray} {maxL' : Nat} {ret' : Option FieldType} {rm : Room} {argsL : List Value} {a : Addr} {C : String} {F G : OHp} {Q' : Option Value → OHp → Prop} (W : Nat) (i : Nat) (ix rx : List Nat) {fs : List OFld} (hi : H[i]? = some (a, ob C fs)) (D : Does l Z a0 h0 y' code' maxL' ret' rm (.ref a :: argsL).toArray F Q') (w1 : (Jvm.Cond.methodLink y.cls index y').before a0 Z = true) (w2 : (Jvm.Cond.instanceMethod y').before a0 Z = true) (w5 : (Jvm.Cond.superclass y.cls y'.cls).before a0 Z = true) (w6 : (Jvm.Cond.sameMethod y'.cls y'.cls y'.name y'.desc).before a0 Z = true) (hn : y'.name ≠ "<init>") (w3 : (Jvm.Cond.initialized y'.cls).before a0 Z = true) (w4 : (Jvm.Cond.code y' code' maxL' ret').before a0 Z = true) {ps : List FieldType} {r : Option FieldType} (hpd : parseMethodDescriptor y'.desc = some ⟨ps, r⟩) (hlen : argsL.length = ps.length) {stk : List Value} (hstk : stk = argsL.reverse ++ .ref a :: st) (hsize : Ls.size = maxL) (hF : ix.map (fun i => H[i]?) = F.map some) (hG : rx.map (fun i => H[i]?) = G.map some) (k : ∀ v F', Q' v F' → Goes p l e R s m args below meth c Z a0 h0 hS ws rc rs Q (F' ++ G) (cells + rm.cells) (slots + rm.slots) (mkF m (pc + 3) Ls (v.toList ++ st))) (hN : (ix ++ rx).Nodup := by decide) (hd : oAt code pc (.invokespecial index, 3) = true := by decide +kernel) (hfr : rm.frames + 1 ≤ R.frames := by decide) (hW : (st.map fun v => v.category).sum = W := by rfl) (hlo : W + (maxL' + 11) + rm.locals ≤ R.locals := by decide) (hce : cells + rm.cells ≤ R.cells := by decide) (hsl : slots + rm.slots ≤ R.slots := by decide) : Goes p l e R s m args below meth c Z a0 h0 hS ws rc rs Q H cells slots (mkF m pc Ls stk) := fun T locs Y N A => by
  subst hstk hW
  have NN := List.nodup_append.mp hN
  have hZ := X.2.2.2.2.2.2.2
  obtain ⟨v, vm1, ⟨T', L', k', n'⟩, -, Y', ⟨Lc, ⟨N', F', hQ', B⟩, l', k'', n''⟩, st'⟩ := superBack Y X.1 hZ (y := y') X.2.2.2.1 w1 w6 w2 w5 hn
    (backOf (W := (st.map fun v => v.category).sum) (Q := fun v h' L => Fr h0.size L ∧ ∃ F', Q' v F' ∧ Hp Z a0 h0 T.heap (F.map (·.1)) h' F') (D [] T.heap ((A.sub ix hF NN.1).enter)) hZ w4 w3 hfr hlo) rfl (Ins.self (A.at hi : OKo Z a0 T.heap a C fs).1) (g := mkF m pc Ls (argsL.reverse ++ .ref a :: st)) rfl (hsize.trans X.2.2.1.symm) w4 (argsL := argsL) (rest := st) (lenOf hpd hlen) rfl (by show 2 * 0 + _ ≤ _; omega) (hb X.2.1 (oAt.dec hd)) (fun _ _ => ⟨rfl, rfl, hce, hsl⟩)
  dsimp only [Pt.U, Pt.locs, Pt.cells, Pt.slots] at Y' l' k'' n'' st' B
  subst l' k'' n''
  exact (k v F' hQ' T' _ Y' (N.app N') (A.back hF hG hN B)).via fun t q => st'.trans q
/-- one that some 'selects' word shows to be no interface finds its own method -/
theorem own_same {C : String} {y1 z1 y' : MethodName} (w1 : (Jvm.Cond.selects C z1 y1).before a0 Z = true) (hc : y1.cls = y'.cls) (w2 : (Jvm.Cond.instanceMethod y').before a0 Z = true) (hx : y'.cls ≠ "java/lang/invoke/MethodHandle" ∧ y'.cls ≠ "java/lang/invoke/VarHandle") : (Jvm.Cond.sameMethod y'.cls y'.cls y'.name y'.desc).before a0 Z = true := by
  obtain ⟨c1, r1, m1, -, -, q3, -, kP, hkP, hkPi⟩ := Cond.selects_spec w1
  obtain ⟨mk, methM, hnamed, hmethM, hstM, habM⟩ := Cond.instanceMethod_spec w2
  have e1 := findClass_of_methodNamed q3
  have e2 := findClass_of_methodNamed hnamed
  rw [hc] at e1
  have e3 : m1.cls = mk.cls := Option.some.inj (e1.symm.trans e2)
  rw [e3] at hkP
  have hf := State.methodFound?_of_named hnamed hx
  have hnamed' : Z.methodNamed? ⟨y'.cls, y'.name, y'.desc⟩ = some mk := hnamed
  simp [Cond.before, Cond.holds, Cond.value, e2, hkP, hkPi, hf, hnamed']
end Up
abbrev o_Lock (v0 v1 v2 v3 v4 v5 v6 v7 v8 : Value) : OObj := ob "com/example/gapkeeper/gapkeeper/engine/Lock" [("com/example/gapkeeper/gapkeeper/engine/Lock", "owner", "Lcom/example/gapkeeper/gapkeeper/engine/Transaction;", v0), ("com/example/gapkeeper/gapkeeper/engine/Lock", "table", "Lcom/example/gapkeeper/gapkeeper/engine/Table;", v1), ("com/example/gapkeeper/gapkeeper/engine/Lock", "index", "Lcom/example/gapkeeper/gapkeeper/engine/Index;", v2), ("com/example/gapkeeper/gapkeeper/engine/Lock", "entry", "Lcom/example/gapkeeper/gapkeeper/engine/Key;", v3), ("com/example/gapkeeper/gapkeeper/engine/Lock", "last", "Lcom/example/gapkeeper/gapkeeper/engine/Key;", v4), ("com/example/gapkeeper/gapkeeper/engine/Lock", "mode", "Lcom/example/gapkeeper/gapkeeper/engine/Lock$Mode;", v5), ("com/example/gapkeeper/gapkeeper/engine/Lock", "kind", "Lcom/example/gapkeeper/gapkeeper/engine/Lock$Kind;", v6), ("com/example/gapkeeper/gapkeeper/engine/Lock", "ownerPrevious", "Lcom/example/gapkeeper/gapkeeper/engine/Lock;", v7), ("com/example/gapkeeper/gapkeeper/engine/Lock", "ownerNext", "Lcom/example/gapkeeper/gapkeeper/engine/Lock;", v8)]
theorem nd_Lock : (["owner", "table", "index", "entry", "last", "mode", "kind", "ownerPrevious", "ownerNext"] : List String).Nodup := by decide +kernel
theorem new_Lock {Z : State} {a0 : Array Value} (hw : ∀ d ∈ tables_1, d.before a0 Z = true) : ∀ f ∈ ([("com/example/gapkeeper/gapkeeper/engine/Lock", "owner", "Lcom/example/gapkeeper/gapkeeper/engine/Transaction;", .null), ("com/example/gapkeeper/gapkeeper/engine/Lock", "table", "Lcom/example/gapkeeper/gapkeeper/engine/Table;", .null), ("com/example/gapkeeper/gapkeeper/engine/Lock", "index", "Lcom/example/gapkeeper/gapkeeper/engine/Index;", .null), ("com/example/gapkeeper/gapkeeper/engine/Lock", "entry", "Lcom/example/gapkeeper/gapkeeper/engine/Key;", .null), ("com/example/gapkeeper/gapkeeper/engine/Lock", "last", "Lcom/example/gapkeeper/gapkeeper/engine/Key;", .null), ("com/example/gapkeeper/gapkeeper/engine/Lock", "mode", "Lcom/example/gapkeeper/gapkeeper/engine/Lock$Mode;", .null), ("com/example/gapkeeper/gapkeeper/engine/Lock", "kind", "Lcom/example/gapkeeper/gapkeeper/engine/Lock$Kind;", .null), ("com/example/gapkeeper/gapkeeper/engine/Lock", "ownerPrevious", "Lcom/example/gapkeeper/gapkeeper/engine/Lock;", .null), ("com/example/gapkeeper/gapkeeper/engine/Lock", "ownerNext", "Lcom/example/gapkeeper/gapkeeper/engine/Lock;", .null)] : List OFld), Laid Z a0 "com/example/gapkeeper/gapkeeper/engine/Lock" f.1 f.2.1 f.2.2.1 ∧ ∃ t, parseFieldDescriptor f.2.2.1 = some t ∧ f.2.2.2 = defaultValue t := List.forall_mem_cons.mpr ⟨⟨Or.inr (wd hw 13 rfl), (.object "com/example/gapkeeper/gapkeeper/engine/Transaction"), by decide +kernel, rfl⟩, List.forall_mem_cons.mpr ⟨⟨Or.inr (wd hw 15 rfl), (.object "com/example/gapkeeper/gapkeeper/engine/Table"), by decide +kernel, rfl⟩, List.forall_mem_cons.mpr ⟨⟨Or.inr (wd hw 17 rfl), (.object "com/example/gapkeeper/gapkeeper/engine/Index"), by decide +kernel, rfl⟩, List.forall_mem_cons.mpr ⟨⟨Or.inl (wd hw 19 rfl), (.object "com/example/gapkeeper/gapkeeper/engine/Key"), by decide +kernel, rfl⟩, List.forall_mem_cons.mpr ⟨⟨Or.inl (wd hw 21 rfl), (.object "com/example/gapkeeper/gapkeeper/engine/Key"), by decide +kernel, rfl⟩, List.forall_mem_cons.mpr ⟨⟨Or.inr (wd hw 23 rfl), (.object "com/example/gapkeeper/gapkeeper/engine/Lock$Mode"), by decide +kernel, rfl⟩, List.forall_mem_cons.mpr ⟨⟨Or.inr (wd hw 25 rfl), (.object "com/example/gapkeeper/gapkeeper/engine/Lock$Kind"), by decide +kernel, rfl⟩, List.forall_mem_cons.mpr ⟨⟨Or.inl (wd hw 81 rfl), (.object "com/example/gapkeeper/gapkeeper/engine/Lock"), by decide +kernel, rfl⟩, List.forall_mem_cons.mpr ⟨⟨Or.inl (wd hw 83 rfl), (.object "com/example/gapkeeper/gapkeeper/engine/Lock"), by decide +kernel, rfl⟩, fun _ q => nomatch q⟩⟩⟩⟩⟩⟩⟩⟩⟩
abbrev o_LL (v0 v1 v2 : Value) : OObj := ob "com/example/gapkeeper/gapkeeper/engine/LockList" [("com/example/gapkeeper/gapkeeper/engine/LockList", "first", "Lcom/example/gapkeeper/gapkeeper/engine/Lock;", v0), ("com/example/gapkeeper/gapkeeper/engine/LockList", "last", "Lcom/example/gapkeeper/gapkeeper/engine/Lock;", v1), ("com/example/gapkeeper/gapkeeper/engine/LockList", "size", "I", v2)]
theorem nd_LL : (["first", "last", "size"] : List String).Nodup := by decide +kernel
theorem new_LL {Z : State} {a0 : Array Value} (hw : ∀ d ∈ tables_1, d.before a0 Z = true) : ∀ f ∈ ([("com/example/gapkeeper/gapkeeper/engine/LockList", "first", "Lcom/example/gapkeeper/gapkeeper/engine/Lock;", .null), ("com/example/gapkeeper/gapkeeper/engine/LockList", "last", "Lcom/example/gapkeeper/gapkeeper/engine/Lock;", .null), ("com/example/gapkeeper/gapkeeper/engine/LockList", "size", "I", .int 0)] : List OFld), Laid Z a0 "com/example/gapkeeper/gapkeeper/engine/LockList" f.1 f.2.1 f.2.2.1 ∧ ∃ t, parseFieldDescriptor f.2.2.1 = some t ∧ f.2.2.2 = defaultValue t := List.forall_mem_cons.mpr ⟨⟨Or.inl (wd hw 39 rfl), (.object "com/example/gapkeeper/gapkeeper/engine/Lock"), by decide +kernel, rfl⟩, List.forall_mem_cons.mpr ⟨⟨Or.inl (wd hw 41 rfl), (.object "com/example/gapkeeper/gapkeeper/engine/Lock"), by decide +kernel, rfl⟩, List.forall_mem_cons.mpr ⟨⟨Or.inl (wd hw 43 rfl), .int, by decide +kernel, rfl⟩, fun _ q => nomatch q⟩⟩⟩
abbrev o_It (v0 v1 : Value) : OObj := ob "com/example/gapkeeper/gapkeeper/engine/LockList$1" [("com/example/gapkeeper/gapkeeper/engine/LockList$1", "this$0", "Lcom/example/gapkeeper/gapkeeper/engine/LockList;", v0), ("com/example/gapkeeper/gapkeeper/engine/LockList$1", "next", "Lcom/example/gapkeeper/gapkeeper/engine/Lock;", v1)]
theorem nd_It : (["this$0", "next"] : List String).Nodup := by decide +kernel
theorem new_It {Z : State} {a0 : Array Value} (hw : ∀ d ∈ tables_1, d.before a0 Z = true) : ∀ f ∈ ([("com/example/gapkeeper/gapkeeper/engine/LockList$1", "this$0", "Lcom/example/gapkeeper/gapkeeper/engine/LockList;", .null), ("com/example/gapkeeper/gapkeeper/engine/LockList$1", "next", "Lcom/example/gapkeeper/gapkeeper/engine/Lock;", .null)] : List OFld), Laid Z a0 "com/example/gapkeeper/gapkeeper/engine/LockList$1" f.1 f.2.1 f.2.2.1 ∧ ∃ t, parseFieldDescriptor f.2.2.1 = some t ∧ f.2.2.2 = defaultValue t := List.forall_mem_cons.mpr ⟨⟨Or.inr (wd hw 66 rfl), (.object "com/example/gapkeeper/gapkeeper/engine/LockList"), by decide +kernel, rfl⟩, List.forall_mem_cons.mpr ⟨⟨Or.inl (wd hw 70 rfl), (.object "com/example/gapkeeper/gapkeeper/engine/Lock"), by decide +kernel, rfl⟩, fun _ q => nomatch q⟩⟩
abbrev y_0 : MethodName := ⟨"com/example/gapkeeper/gapkeeper/engine/Lock", "onTable", "(Lcom/example/gapkeeper/gapkeeper/engine/Transaction;Lcom/example/gapkeeper/gapkeeper/engine/Table;Lcom/example/gapkeeper/gapkeeper/engine/Lock$Mode;)Lcom/example/gapkeeper/gapkeeper/engine/Lock;"⟩
theorem pd_y_0 : parseMethodDescriptor y_0.desc = some ⟨[(.object "com/example/gapkeeper/gapkeeper/engine/Transaction"), (.object "com/example/gapkeeper/gapkeeper/engine/Table"), (.object "com/example/gapkeeper/gapkeeper/engine/Lock$Mode")], some (.object "com/example/gapkeeper/gapkeeper/engine/Lock")⟩ := by decide +kernel
abbrev y_1 : MethodName := ⟨"com/example/gapkeeper/gapkeeper/engine/Lock", "<init>", "(Lcom/example/gapkeeper/gapkeeper/engine/Transaction;Lcom/example/gapkeeper/gapkeeper/engine/Table;Lcom/example/gapkeeper/gapkeeper/engine/Index;Lcom/example/gapkeeper/gapkeeper/engine/Key;Lcom/example/gapkeeper/gapkeeper/engine/Lock$Mode;Lcom/example/gapkeeper/gapkeeper/engine/Lock$Kind;)V"⟩
theorem pd_y_1 : parseMethodDescriptor y_1.desc = some ⟨[(.object "com/example/gapkeeper/gapkeeper/engine/Transaction"), (.object "com/example/gapkeeper/gapkeeper/engine/Table"), (.object "com/example/gapkeeper/gapkeeper/engine/Index"), (.object "com/example/gapkeeper/gapkeeper/engine/Key"), (.object "com/example/gapkeeper/gapkeeper/engine/Lock$Mode"), (.object "com/example/gapkeeper/gapkeeper/engine/Lock$Kind")], none⟩ := by decide +kernel
abbrev y_2 : MethodName := ⟨"com/example/gapkeeper/gapkeeper/engine/LockList", "<init>", "()V"⟩
theorem pd_y_2 : parseMethodDescriptor y_2.desc = some ⟨[], none⟩ := by decide +kernel
abbrev y_3 : MethodName := ⟨"com/example/gapkeeper/gapkeeper/engine/LockList", "clear", "()V"⟩
theorem pd_y_3 : parseMethodDescriptor y_3.desc = some ⟨[], none⟩ := by decide +kernel
abbrev y_4 : MethodName := ⟨"com/example/gapkeeper/gapkeeper/engine/LockList", "size", "()I"⟩
theorem pd_y_4 : parseMethodDescriptor y_4.desc = some ⟨[], some .int⟩ := by decide +kernel
abbrev y_5 : MethodName := ⟨"com/example/gapkeeper/gapkeeper/engine/LockList", "last", "()Lcom/example/gapkeeper/gapkeeper/engine/Lock;"⟩
theorem pd_y_5 : parseMethodDescriptor y_5.desc = some ⟨[], some (.object "com/example/gapkeeper/gapkeeper/engine/Lock")⟩ := by decide +kernel
abbrev y_6 : MethodName := ⟨"com/example/gapkeeper/gapkeeper/engine/LockList", "iterator", "()Ljava/util/Iterator;"⟩
theorem pd_y_6 : parseMethodDescriptor y_6.desc = some ⟨[], some (.object "java/util/Iterator")⟩ := by decide +kernel
abbrev y_7 : MethodName := ⟨"com/example/gapkeeper/gapkeeper/engine/LockList$1", "<init>", "(Lcom/example/gapkeeper/gapkeeper/engine/LockList;)V"⟩
theorem pd_y_7 : parseMethodDescriptor y_7.desc = some ⟨[(.object "com/example/gapkeeper/gapkeeper/engine/LockList")], none⟩ := by decide +kernel
abbrev y_8 : MethodName := ⟨"com/example/gapkeeper/gapkeeper/engine/LockList$1", "hasNext", "()Z"⟩
theorem pd_y_8 : parseMethodDescriptor y_8.desc = some ⟨[], some .boolean⟩ := by decide +kernel
abbrev y_9 : MethodName := ⟨"com/example/gapkeeper/gapkeeper/engine/LockList", "add", "(Lcom/example/gapkeeper/gapkeeper/engine/Lock;)V"⟩
theorem pd_y_9 : parseMethodDescriptor y_9.desc = some ⟨[(.object "com/example/gapkeeper/gapkeeper/engine/Lock")], none⟩ := by decide +kernel
abbrev y_10 : MethodName := ⟨"com/example/gapkeeper/gapkeeper/engine/LockList", "link", "(Lcom/example/gapkeeper/gapkeeper/engine/Lock;Lcom/example/gapkeeper/gapkeeper/engine/Lock;Lcom/example/gapkeeper/gapkeeper/engine/Lock;)V"⟩
theorem pd_y_10 : parseMethodDescriptor y_10.desc = some ⟨[(.object "com/example/gapkeeper/gapkeeper/engine/Lock"), (.object "com/example/gapkeeper/gapkeeper/engine/Lock"), (.object "com/example/gapkeeper/gapkeeper/engine/Lock")], none⟩ := by decide +kernel
abbrev y_11 : MethodName := ⟨"com/example/gapkeeper/gapkeeper/engine/LockList", "join", "(Lcom/example/gapkeeper/gapkeeper/engine/Lock;Lcom/example/gapkeeper/gapkeeper/engine/Lock;)V"⟩
theorem pd_y_11 : parseMethodDescriptor y_11.desc = some ⟨[(.object "com/example/gapkeeper/gapkeeper/engine/Lock"), (.object "com/example/gapkeeper/gapkeeper/engine/Lock")], none⟩ := by decide +kernel
theorem pf_0 : parseFieldDescriptor "Lcom/example/gapkeeper/gapkeeper/engine/Transaction;" = some (.object "com/example/gapkeeper/gapkeeper/engine/Transaction") := by decide +kernel
theorem pf_1 : parseFieldDescriptor "Lcom/example/gapkeeper/gapkeeper/engine/Table;" = some (.object "com/example/gapkeeper/gapkeeper/engine/Table") := by decide +kernel
theorem pf_2 : parseFieldDescriptor "Lcom/example/gapkeeper/gapkeeper/engine/Index;" = some (.object "com/example/gapkeeper/gapkeeper/engine/Index") := by decide +kernel
theorem pf_3 : parseFieldDescriptor "Lcom/example/gapkeeper/gapkeeper/engine/Key;" = some (.object "com/example/gapkeeper/gapkeeper/engine/Key") := by decide +kernel
theorem pf_4 : parseFieldDescriptor "Lcom/example/gapkeeper/gapkeeper/engine/Lock$Mode;" = some (.object "com/example/gapkeeper/gapkeeper/engine/Lock$Mode") := by decide +kernel
theorem pf_5 : parseFieldDescriptor "Lcom/example/gapkeeper/gapkeeper/engine/Lock$Kind;" = some (.object "com/example/gapkeeper/gapkeeper/engine/Lock$Kind") := by decide +kernel
set_option maxRecDepth 65536 in
set_option maxHeartbeats 40000000 in
theorem D_ctor (l : Launch) (Z : State) (a0 : Array Value) (h0 : Heap) (hw : ∀ d ∈ tables_1, d.before a0 Z = true) (a : Addr) : Does l Z a0 h0 y_1 prog_52_method_1_code 7 none ({ frames := 1, cells := 0, slots := 0, locals := 12 } : Room) #[.ref a, .null, .null, .null, .null, .null, .null] [(a, o_Lock .null .null .null .null .null .null .null .null .null)] (fun v F => v = none ∧ F = [(a, o_Lock .null .null .null .null .null .null .null .null .null)]) := by
  refine Does.mk #[.val (.ref a), .val .null, .val .null, .val .null, .val .null, .val .null, .val .null] (plainFor_of_name (by decide +kernel)) (fun m => by first | (simp [entryFrame, mkF, argsToLocals, Value.category]; done) | rfl) ?_
  intro p e s m args below meth c h X
  show Goes _ _ _ _ _ _ _ _ _ _ _ _ _ _ _ _ _ _ [(a, o_Lock .null .null .null .null .null .null .null .null .null)] 0 0 (mkF m 0 #[.val (.ref a), .val .null, .val .null, .val .null, .val .null, .val .null, .val .null] [])
  refine Goes.runS X [(.aload_n 0, 1)] (S' := [.ref a]) (pc' := 1) rfl ?_
  refine Goes.initO X 0 (wd hw 9 rfl) (wd hw 10 rfl) (wd hw 11 rfl) rfl ?_
  refine Goes.runS X [(.aload_n 0, 1), (.aload_n 1, 1)] (S' := [.null, .ref a]) (pc' := 6) rfl ?_
  refine Goes.putF X 0 0 rfl rfl (wd hw 12 rfl) Via.refl (Or.inr ⟨(wd hw 13 rfl), rfl, rfl⟩) (wd hw 5 rfl) (own_hn rfl rfl nd_Lock) (ty := (.object "com/example/gapkeeper/gapkeeper/engine/Transaction")) pf_0 rfl rfl ?_
  refine Goes.runS X [(.aload_n 0, 1), (.aload_n 2, 1)] (S' := [.null, .ref a]) (pc' := 11) rfl ?_
  refine Goes.putF X 0 1 rfl rfl (wd hw 14 rfl) Via.refl (Or.inr ⟨(wd hw 15 rfl), rfl, rfl⟩) (wd hw 5 rfl) (own_hn rfl rfl nd_Lock) (ty := (.object "com/example/gapkeeper/gapkeeper/engine/Table")) pf_1 rfl rfl ?_
  refine Goes.runS X [(.aload_n 0, 1), (.aload_n 3, 1)] (S' := [.null, .ref a]) (pc' := 16) rfl ?_
  refine Goes.putF X 0 2 rfl rfl (wd hw 16 rfl) Via.refl (Or.inr ⟨(wd hw 17 rfl), rfl, rfl⟩) (wd hw 5 rfl) (own_hn rfl rfl nd_Lock) (ty := (.object "com/example/gapkeeper/gapkeeper/engine/Index")) pf_2 rfl rfl ?_
  refine Goes.runS X [(.aload_n 0, 1), (.aload 4, 2)] (S' := [.null, .ref a]) (pc' := 22) rfl ?_
  refine Goes.putF X 0 3 rfl rfl (wd hw 18 rfl) Via.refl (Or.inl (wd hw 19 rfl)) (wd hw 5 rfl) (own_hn rfl rfl nd_Lock) (ty := (.object "com/example/gapkeeper/gapkeeper/engine/Key")) pf_3 rfl rfl ?_
  refine Goes.runS X [(.aload_n 0, 1), (.aload 4, 2)] (S' := [.null, .ref a]) (pc' := 28) rfl ?_
  refine Goes.putF X 0 4 rfl rfl (wd hw 20 rfl) Via.refl (Or.inl (wd hw 21 rfl)) (wd hw 5 rfl) (own_hn rfl rfl nd_Lock) (ty := (.object "com/example/gapkeeper/gapkeeper/engine/Key")) pf_3 rfl rfl ?_
  refine Goes.runS X [(.aload_n 0, 1), (.aload 5, 2)] (S' := [.null, .ref a]) (pc' := 34) rfl ?_
  refine Goes.putF X 0 5 rfl rfl (wd hw 22 rfl) Via.refl (Or.inr ⟨(wd hw 23 rfl), rfl, rfl⟩) (wd hw 5 rfl) (own_hn rfl rfl nd_Lock) (ty := (.object "com/example/gapkeeper/gapkeeper/engine/Lock$Mode")) pf_4 rfl rfl ?_
  refine Goes.runS X [(.aload_n 0, 1), (.aload 6, 2)] (S' := [.null, .ref a]) (pc' := 40) rfl ?_
  refine Goes.putF X 0 6 rfl rfl (wd hw 24 rfl) Via.refl (Or.inr ⟨(wd hw 25 rfl), rfl, rfl⟩) (wd hw 5 rfl) (own_hn rfl rfl nd_Lock) (ty := (.object "com/example/gapkeeper/gapkeeper/engine/Lock$Kind")) pf_5 rfl rfl ?_
  refine Goes.retV X ?_
  exact ⟨rfl, rfl⟩
set_option maxRecDepth 65536 in
set_option maxHeartbeats 40000000 in
theorem D_onT (l : Launch) (Z : State) (a0 : Array Value) (h0 : Heap) (hw : ∀ d ∈ tables_1, d.before a0 Z = true)  : Does l Z a0 h0 y_0 prog_52_method_2_code 3 (some (.object "com/example/gapkeeper/gapkeeper/engine/Lock")) ({ frames := 2, cells := 1, slots := 18, locals := 31 } : Room) #[.null, .null, .null] [] (fun v F => ∃ a, v = some (.ref a) ∧ F = [(a, o_Lock .null .null .null .null .null .null .null .null .null)]) := by
  refine Does.mk #[.val .null, .val .null, .val .null] (plainFor_of_name (by decide +kernel)) (fun m => by first | (simp [entryFrame, mkF, argsToLocals, Value.category]; done) | rfl) ?_
  intro p e s m args below meth c h X
  show Goes _ _ _ _ _ _ _ _ _ _ _ _ _ _ _ _ _ _ [] 0 0 (mkF m 0 #[.val .null, .val .null, .val .null] [])
  refine Goes.new X _ (wd hw 4 rfl) (wd hw 5 rfl) (wd hw 2 rfl) (new_Lock hw) (fun a1 => ?_)
  refine Goes.runS X [(.dup, 1), (.aload_n 0, 1), (.aload_n 1, 1), (.aconst_null, 1), (.aconst_null, 1), (.aload_n 2, 1), (.aconst_null, 1)] (S' := [.null, .null, .null, .null, .null, .null, .ref a1, .ref a1]) (pc' := 10) rfl ?_
  refine Goes.callN X 1 [0] [] (D_ctor l Z a0 h0 hw a1) rfl (wd hw 6 rfl) (wd hw 7 rfl) (wd hw 2 rfl) (wd hw 8 rfl) pd_y_1 rfl (st := [.ref a1]) rfl rfl (G := []) rfl rfl ?_
  rintro _ _ ⟨rfl, rfl⟩
  refine Goes.retA X rfl rfl rfl ?_
  exact ⟨a1, rfl, rfl⟩
set_option maxRecDepth 65536 in
set_option maxHeartbeats 40000000 in
theorem D_lctor (l : Launch) (Z : State) (a0 : Array Value) (h0 : Heap) (hw : ∀ d ∈ tables_1, d.before a0 Z = true) (a : Addr) : Does l Z a0 h0 y_2 prog_61_method_1_code 1 none ({ frames := 1, cells := 0, slots := 0, locals := 12 } : Room) #[.ref a] [(a, o_LL .null .null (.int 0))] (fun v F => v = none ∧ F = [(a, o_LL .null .null (.int 0))]) := by
  refine Does.mk #[.val (.ref a)] (plainFor_of_name (by decide +kernel)) (fun m => by first | (simp [entryFrame, mkF, argsToLocals, Value.category]; done) | rfl) ?_
  intro p e s m args below meth c h X
  show Goes _ _ _ _ _ _ _ _ _ _ _ _ _ _ _ _ _ _ [(a, o_LL .null .null (.int 0))] 0 0 (mkF m 0 #[.val (.ref a)] [])
  refine Goes.runS X [(.aload_n 0, 1)] (S' := [.ref a]) (pc' := 1) rfl ?_
  refine Goes.initO X 0 (wd hw 32 rfl) (wd hw 10 rfl) (wd hw 11 rfl) rfl ?_
  refine Goes.retV X ?_
  exact ⟨rfl, rfl⟩
theorem pf_6 : parseFieldDescriptor "Lcom/example/gapkeeper/gapkeeper/engine/Lock;" = some (.object "com/example/gapkeeper/gapkeeper/engine/Lock") := by decide +kernel
set_option maxRecDepth 65536 in
set_option maxHeartbeats 40000000 in
theorem D_jNR (l : Launch) (Z : State) (a0 : Array Value) (h0 : Heap) (hw : ∀ d ∈ tables_1, d.before a0 Z = true) (l' a : Addr) (la nx pv f : Value) (sz : Int32) : Does l Z a0 h0 y_11 prog_61_method_12_code 3 none ({ frames := 0, cells := 0, slots := 0, locals := 0 } : Room) #[.ref l', .null, .ref a] [(l', o_LL (f) (la) (.int sz)), (a, o_Lock .null .null .null .null .null .null .null (pv) (nx))] (fun v F => v = none ∧ F = [(l', o_LL (.ref a) (la) (.int sz)), (a, o_Lock .null .null .null .null .null .null .null .null (nx))]) := by
  refine Does.mk #[.val (.ref l'), .val .null, .val (.ref a)] (plainFor_of_name (by decide +kernel)) (fun m => by first | (simp [entryFrame, mkF, argsToLocals, Value.category]; done) | rfl) ?_
  intro p e s m args below meth c h X
  show Goes _ _ _ _ _ _ _ _ _ _ _ _ _ _ _ _ _ _ [(l', o_LL (f) (la) (.int sz)), (a, o_Lock .null .null .null .null .null .null .null (pv) (nx))] 0 0 (mkF m 0 #[.val (.ref l'), .val .null, .val (.ref a)] [])
  refine Goes.runS X [(.aload_n 1, 1)] (S' := [.null]) (pc' := 1) rfl ?_
  refine Goes.nonN X (o := 11) ?_
  refine Goes.runS X [(.aload_n 0, 1), (.aload_n 2, 1)] (S' := [.ref a, .ref l']) (pc' := 6) rfl ?_
  refine Goes.putF X 0 0 rfl rfl (wd hw 38 rfl) Via.refl (Or.inl (wd hw 39 rfl)) (wd hw 27 rfl) (own_hn rfl rfl nd_LL) (ty := (.object "com/example/gapkeeper/gapkeeper/engine/Lock")) pf_6 rfl rfl ?_
  refine Goes.goto X (o := 8) (pc' := 17) ?_
  refine Goes.runS X [(.aload_n 2, 1)] (S' := [.ref a]) (pc' := 18) rfl ?_
  refine Goes.nonY X (o := 11) (pc' := 29) ?_
  refine Goes.runS X [(.aload_n 2, 1), (.aload_n 1, 1)] (S' := [.null, .ref a]) (pc' := 31) rfl ?_
  refine Goes.putF X 1 7 rfl rfl (wd hw 97 rfl) Via.refl (Or.inl (wd hw 81 rfl)) (wd hw 5 rfl) (own_hn rfl rfl nd_Lock) (ty := (.object "com/example/gapkeeper/gapkeeper/engine/Lock")) pf_6 rfl rfl ?_
  refine Goes.retV X ?_
  exact ⟨rfl, rfl⟩
set_option maxRecDepth 65536 in
set_option maxHeartbeats 40000000 in
theorem D_jRR (l : Launch) (Z : State) (a0 : Array Value) (h0 : Heap) (hw : ∀ d ∈ tables_1, d.before a0 Z = true) (l' b a : Addr) (pb nb pa na : Value) : Does l Z a0 h0 y_11 prog_61_method_12_code 3 none ({ frames := 0, cells := 0, slots := 0, locals := 0 } : Room) #[.ref l', .ref b, .ref a] [(b, o_Lock .null .null .null .null .null .null .null (pb) (nb)), (a, o_Lock .null .null .null .null .null .null .null (pa) (na))] (fun v F => v = none ∧ F = [(b, o_Lock .null .null .null .null .null .null .null (pb) (.ref a)), (a, o_Lock .null .null .null .null .null .null .null (.ref b) (na))]) := by
  refine Does.mk #[.val (.ref l'), .val (.ref b), .val (.ref a)] (plainFor_of_name (by decide +kernel)) (fun m => by first | (simp [entryFrame, mkF, argsToLocals, Value.category]; done) | rfl) ?_
  intro p e s m args below meth c h X
  show Goes _ _ _ _ _ _ _ _ _ _ _ _ _ _ _ _ _ _ [(b, o_Lock .null .null .null .null .null .null .null (pb) (nb)), (a, o_Lock .null .null .null .null .null .null .null (pa) (na))] 0 0 (mkF m 0 #[.val (.ref l'), .val (.ref b), .val (.ref a)] [])
  refine Goes.runS X [(.aload_n 1, 1)] (S' := [.ref b]) (pc' := 1) rfl ?_
  refine Goes.nonY X (o := 11) (pc' := 12) ?_
  refine Goes.runS X [(.aload_n 1, 1), (.aload_n 2, 1)] (S' := [.ref a, .ref b]) (pc' := 14) rfl ?_
  refine Goes.putF X 0 8 rfl rfl (wd hw 98 rfl) Via.refl (Or.inl (wd hw 83 rfl)) (wd hw 5 rfl) (own_hn rfl rfl nd_Lock) (ty := (.object "com/example/gapkeeper/gapkeeper/engine/Lock")) pf_6 rfl rfl ?_
  refine Goes.runS X [(.aload_n 2, 1)] (S' := [.ref a]) (pc' := 18) rfl ?_
  refine Goes.nonY X (o := 11) (pc' := 29) ?_
  refine Goes.runS X [(.aload_n 2, 1), (.aload_n 1, 1)] (S' := [.ref b, .ref a]) (pc' := 31) rfl ?_
  refine Goes.putF X 1 7 rfl rfl (wd hw 97 rfl) Via.refl (Or.inl (wd hw 81 rfl)) (wd hw 5 rfl) (own_hn rfl rfl nd_Lock) (ty := (.object "com/example/gapkeeper/gapkeeper/engine/Lock")) pf_6 rfl rfl ?_
  refine Goes.retV X ?_
  exact ⟨rfl, rfl⟩
set_option maxRecDepth 65536 in
set_option maxHeartbeats 40000000 in
theorem D_jRN (l : Launch) (Z : State) (a0 : Array Value) (h0 : Heap) (hw : ∀ d ∈ tables_1, d.before a0 Z = true) (l' a : Addr) (f la pv nx : Value) (sz : Int32) : Does l Z a0 h0 y_11 prog_61_method_12_code 3 none ({ frames := 0, cells := 0, slots := 0, locals := 0 } : Room) #[.ref l', .ref a, .null] [(l', o_LL (f) (la) (.int sz)), (a, o_Lock .null .null .null .null .null .null .null (pv) (nx))] (fun v F => v = none ∧ F = [(l', o_LL (f) (.ref a) (.int sz)), (a, o_Lock .null .null .null .null .null .null .null (pv) .null)]) := by
  refine Does.mk #[.val (.ref l'), .val (.ref a), .val .null] (plainFor_of_name (by decide +kernel)) (fun m => by first | (simp [entryFrame, mkF, argsToLocals, Value.category]; done) | rfl) ?_
  intro p e s m args below meth c h X
  show Goes _ _ _ _ _ _ _ _ _ _ _ _ _ _ _ _ _ _ [(l', o_LL (f) (la) (.int sz)), (a, o_Lock .null .null .null .null .null .null .null (pv) (nx))] 0 0 (mkF m 0 #[.val (.ref l'), .val (.ref a), .val .null] [])
  refine Goes.runS X [(.aload_n 1, 1)] (S' := [.ref a]) (pc' := 1) rfl ?_
  refine Goes.nonY X (o := 11) (pc' := 12) ?_
  refine Goes.runS X [(.aload_n 1, 1), (.aload_n 2, 1)] (S' := [.null, .ref a]) (pc' := 14) rfl ?_
  refine Goes.putF X 1 8 rfl rfl (wd hw 98 rfl) Via.refl (Or.inl (wd hw 83 rfl)) (wd hw 5 rfl) (own_hn rfl rfl nd_Lock) (ty := (.object "com/example/gapkeeper/gapkeeper/engine/Lock")) pf_6 rfl rfl ?_
  refine Goes.runS X [(.aload_n 2, 1)] (S' := [.null]) (pc' := 18) rfl ?_
  refine Goes.nonN X (o := 11) ?_
  refine Goes.runS X [(.aload_n 0, 1), (.aload_n 1, 1)] (S' := [.ref a, .ref l']) (pc' := 23) rfl ?_
  refine Goes.putF X 0 1 rfl rfl (wd hw 40 rfl) Via.refl (Or.inl (wd hw 41 rfl)) (wd hw 27 rfl) (own_hn rfl rfl nd_LL) (ty := (.object "com/example/gapkeeper/gapkeeper/engine/Lock")) pf_6 rfl rfl ?_
  refine Goes.goto X (o := 8) (pc' := 34) ?_
  refine Goes.retV X ?_
  exact ⟨rfl, rfl⟩
theorem pf_7 : parseFieldDescriptor "I" = some .int := by decide +kernel
set_option maxRecDepth 65536 in
set_option maxHeartbeats 40000000 in
theorem D_l0 (l : Launch) (Z : State) (a0 : Array Value) (h0 : Heap) (hw : ∀ d ∈ tables_1, d.before a0 Z = true) (l' a : Addr) (f la pv nx : Value) (sz : Int32) : Does l Z a0 h0 y_10 prog_61_method_11_code 4 none ({ frames := 1, cells := 0, slots := 0, locals := 14 } : Room) #[.ref l', .null, .ref a, .null] [(l', o_LL (f) (la) (.int sz)), (a, o_Lock .null .null .null .null .null .null .null (pv) (nx))] (fun v F => v = none ∧ F = [(l', o_LL (.ref a) (.ref a) (.int (sz + 1))), (a, o_Lock .null .null .null .null .null .null .null .null .null)]) := by
  refine Does.mk #[.val (.ref l'), .val .null, .val (.ref a), .val .null] (plainFor_of_name (by decide +kernel)) (fun m => by first | (simp [entryFrame, mkF, argsToLocals, Value.category]; done) | rfl) ?_
  intro p e s m args below meth c h X
  show Goes _ _ _ _ _ _ _ _ _ _ _ _ _ _ _ _ _ _ [(l', o_LL (f) (la) (.int sz)), (a, o_Lock .null .null .null .null .null .null .null (pv) (nx))] 0 0 (mkF m 0 #[.val (.ref l'), .val .null, .val (.ref a), .val .null] [])
  refine Goes.runS X [(.aload_n 0, 1), (.aload_n 1, 1), (.aload_n 2, 1)] (S' := [.ref a, .null, .ref l']) (pc' := 3) rfl ?_
  refine Goes.callP X 0 0 [0, 1] [] rfl (D_jNR l Z a0 h0 hw l' a la nx pv f sz) (wd hw 93 rfl) (wd hw 94 rfl) (wd hw 95 rfl) (nf_inst X (wd hw 27 rfl)) (wd hw 28 rfl) (wd hw 96 rfl) pd_y_11 rfl (st := []) rfl rfl (G := []) rfl rfl ?_
  rintro _ _ ⟨rfl, rfl⟩
  refine Goes.runS X [(.aload_n 0, 1), (.aload_n 2, 1), (.aload_n 3, 1)] (S' := [.null, .ref a, .ref l']) (pc' := 9) rfl ?_
  refine Goes.callP X 0 0 [0, 1] [] rfl (D_jRN l Z a0 h0 hw l' a (.ref a) la .null nx sz) (wd hw 93 rfl) (wd hw 94 rfl) (wd hw 95 rfl) (nf_inst X (wd hw 27 rfl)) (wd hw 28 rfl) (wd hw 96 rfl) pd_y_11 rfl (st := []) rfl rfl (G := []) rfl rfl ?_
  rintro _ _ ⟨rfl, rfl⟩
  refine Goes.runS X [(.aload_n 0, 1), (.dup, 1)] (S' := [.ref l', .ref l']) (pc' := 14) rfl ?_
  refine Goes.getF X 0 2 rfl rfl (wd hw 42 rfl) Via.refl ?_
  refine Goes.runS X [(.iconst 1, 1), (.iadd, 1)] (S' := [.int (sz + (1 : Int32)), .ref l']) (pc' := 19) rfl ?_
  refine Goes.putF X 0 2 rfl rfl (wd hw 42 rfl) Via.refl (Or.inl (wd hw 43 rfl)) (wd hw 27 rfl) (own_hn rfl rfl nd_LL) (ty := .int) pf_7 rfl rfl ?_
  refine Goes.retV X ?_
  exact ⟨rfl, rfl⟩
set_option maxRecDepth 65536 in
set_option maxHeartbeats 40000000 in
theorem D_l1 (l : Launch) (Z : State) (a0 : Array Value) (h0 : Heap) (hw : ∀ d ∈ tables_1, d.before a0 Z = true) (l' b a : Addr) (f la pb nb pa na : Value) (sz : Int32) : Does l Z a0 h0 y_10 prog_61_method_11_code 4 none ({ frames := 1, cells := 0, slots := 0, locals := 14 } : Room) #[.ref l', .ref b, .ref a, .null] [(l', o_LL (f) (la) (.int sz)), (b, o_Lock .null .null .null .null .null .null .null (pb) (nb)), (a, o_Lock .null .null .null .null .null .null .null (pa) (na))] (fun v F => v = none ∧ F = [(l', o_LL (f) (.ref a) (.int (sz + 1))), (b, o_Lock .null .null .null .null .null .null .null (pb) (.ref a)), (a, o_Lock .null .null .null .null .null .null .null (.ref b) .null)]) := by
  refine Does.mk #[.val (.ref l'), .val (.ref b), .val (.ref a), .val .null] (plainFor_of_name (by decide +kernel)) (fun m => by first | (simp [entryFrame, mkF, argsToLocals, Value.category]; done) | rfl) ?_
  intro p e s m args below meth c h X
  show Goes _ _ _ _ _ _ _ _ _ _ _ _ _ _ _ _ _ _ [(l', o_LL (f) (la) (.int sz)), (b, o_Lock .null .null .null .null .null .null .null (pb) (nb)), (a, o_Lock .null .null .null .null .null .null .null (pa) (na))] 0 0 (mkF m 0 #[.val (.ref l'), .val (.ref b), .val (.ref a), .val .null] [])
  refine Goes.runS X [(.aload_n 0, 1), (.aload_n 1, 1), (.aload_n 2, 1)] (S' := [.ref a, .ref b, .ref l']) (pc' := 3) rfl ?_
  refine Goes.callP X 0 0 [1, 2] [0] rfl (D_jRR l Z a0 h0 hw l' b a pb nb pa na) (wd hw 93 rfl) (wd hw 94 rfl) (wd hw 95 rfl) (nf_inst X (wd hw 27 rfl)) (wd hw 28 rfl) (wd hw 96 rfl) pd_y_11 rfl (st := []) rfl rfl (G := [(l', o_LL (f) (la) (.int sz))]) rfl rfl ?_
  rintro _ _ ⟨rfl, rfl⟩
  refine Goes.runS X [(.aload_n 0, 1), (.aload_n 2, 1), (.aload_n 3, 1)] (S' := [.null, .ref a, .ref l']) (pc' := 9) rfl ?_
  refine Goes.callP X 0 2 [2, 1] [0] rfl (D_jRN l Z a0 h0 hw l' a f la (.ref b) na sz) (wd hw 93 rfl) (wd hw 94 rfl) (wd hw 95 rfl) (nf_inst X (wd hw 27 rfl)) (wd hw 28 rfl) (wd hw 96 rfl) pd_y_11 rfl (st := []) rfl rfl (G := [(b, o_Lock .null .null .null .null .null .null .null (pb) (.ref a))]) rfl rfl ?_
  rintro _ _ ⟨rfl, rfl⟩
  refine Goes.runS X [(.aload_n 0, 1), (.dup, 1)] (S' := [.ref l', .ref l']) (pc' := 14) rfl ?_
  refine Goes.getF X 0 2 rfl rfl (wd hw 42 rfl) Via.refl ?_
  refine Goes.runS X [(.iconst 1, 1), (.iadd, 1)] (S' := [.int (sz + (1 : Int32)), .ref l']) (pc' := 19) rfl ?_
  refine Goes.putF X 0 2 rfl rfl (wd hw 42 rfl) Via.refl (Or.inl (wd hw 43 rfl)) (wd hw 27 rfl) (own_hn rfl rfl nd_LL) (ty := .int) pf_7 rfl rfl ?_
  refine Goes.sub [0, 2, 1] (G := [(l', o_LL (f) (.ref a) (.int (sz + (1 : Int32)))), (b, o_Lock .null .null .null .null .null .null .null (pb) (.ref a)), (a, o_Lock .null .null .null .null .null .null .null (.ref b) .null)]) rfl ?_
  refine Goes.retV X ?_
  exact ⟨rfl, rfl⟩
set_option maxRecDepth 65536 in
set_option maxHeartbeats 40000000 in
theorem D_a0 (l : Launch) (Z : State) (a0 : Array Value) (h0 : Heap) (hw : ∀ d ∈ tables_1, d.before a0 Z = true) (l' a : Addr) (f pv nx : Value) (sz : Int32) : Does l Z a0 h0 y_9 prog_61_method_2_code 2 none ({ frames := 2, cells := 0, slots := 0, locals := 29 } : Room) #[.ref l', .ref a] [(l', o_LL (f) .null (.int sz)), (a, o_Lock .null .null .null .null .null .null .null (pv) (nx))] (fun v F => v = none ∧ F = [(l', o_LL (.ref a) (.ref a) (.int (sz + 1))), (a, o_Lock .null .null .null .null .null .null .null .null .null)]) := by
  refine Does.mk #[.val (.ref l'), .val (.ref a)] (plainFor_of_name (by decide +kernel)) (fun m => by first | (simp [entryFrame, mkF, argsToLocals, Value.category]; done) | rfl) ?_
  intro p e s m args below meth c h X
  show Goes _ _ _ _ _ _ _ _ _ _ _ _ _ _ _ _ _ _ [(l', o_LL (f) .null (.int sz)), (a, o_Lock .null .null .null .null .null .null .null (pv) (nx))] 0 0 (mkF m 0 #[.val (.ref l'), .val (.ref a)] [])
  refine Goes.runS X [(.aload_n 0, 1), (.aload_n 0, 1)] (S' := [.ref l', .ref l']) (pc' := 2) rfl ?_
  refine Goes.getF X 0 1 rfl rfl (wd hw 40 rfl) Via.refl ?_
  refine Goes.runS X [(.aload_n 1, 1), (.aconst_null, 1)] (S' := [.null, .ref a, .null, .ref l']) (pc' := 7) rfl ?_
  refine Goes.callP X 0 0 [0, 1] [] rfl (D_l0 l Z a0 h0 hw l' a f .null pv nx sz) (wd hw 89 rfl) (wd hw 90 rfl) (wd hw 91 rfl) (nf_inst X (wd hw 27 rfl)) (wd hw 28 rfl) (wd hw 92 rfl) pd_y_10 rfl (st := []) rfl rfl (G := []) rfl rfl ?_
  rintro _ _ ⟨rfl, rfl⟩
  refine Goes.retV X ?_
  exact ⟨rfl, rfl⟩
set_option maxRecDepth 65536 in
set_option maxHeartbeats 40000000 in
theorem D_a1 (l : Launch) (Z : State) (a0 : Array Value) (h0 : Heap) (hw : ∀ d ∈ tables_1, d.before a0 Z = true) (l' b a : Addr) (f pb nb pa na : Value) (sz : Int32) : Does l Z a0 h0 y_9 prog_61_method_2_code 2 none ({ frames := 2, cells := 0, slots := 0, locals := 29 } : Room) #[.ref l', .ref a] [(l', o_LL (f) (.ref b) (.int sz)), (b, o_Lock .null .null .null .null .null .null .null (pb) (nb)), (a, o_Lock .null .null .null .null .null .null .null (pa) (na))] (fun v F => v = none ∧ F = [(l', o_LL (f) (.ref a) (.int (sz + 1))), (b, o_Lock .null .null .null .null .null .null .null (pb) (.ref a)), (a, o_Lock .null .null .null .null .null .null .null (.ref b) .null)]) := by
  refine Does.mk #[.val (.ref l'), .val (.ref a)] (plainFor_of_name (by decide +kernel)) (fun m => by first | (simp [entryFrame, mkF, argsToLocals, Value.category]; done) | rfl) ?_
  intro p e s m args below meth c h X
  show Goes _ _ _ _ _ _ _ _ _ _ _ _ _ _ _ _ _ _ [(l', o_LL (f) (.ref b) (.int sz)), (b, o_Lock .null .null .null .null .null .null .null (pb) (nb)), (a, o_Lock .null .null .null .null .null .null .null (pa) (na))] 0 0 (mkF m 0 #[.val (.ref l'), .val (.ref a)] [])
  refine Goes.runS X [(.aload_n 0, 1), (.aload_n 0, 1)] (S' := [.ref l', .ref l']) (pc' := 2) rfl ?_
  refine Goes.getF X 0 1 rfl rfl (wd hw 40 rfl) Via.refl ?_
  refine Goes.runS X [(.aload_n 1, 1), (.aconst_null, 1)] (S' := [.null, .ref a, .ref b, .ref l']) (pc' := 7) rfl ?_
  refine Goes.callP X 0 0 [0, 1, 2] [] rfl (D_l1 l Z a0 h0 hw l' b a f (.ref b) pb nb pa na sz) (wd hw 89 rfl) (wd hw 90 rfl) (wd hw 91 rfl) (nf_inst X (wd hw 27 rfl)) (wd hw 28 rfl) (wd hw 92 rfl) pd_y_10 rfl (st := []) rfl rfl (G := []) rfl rfl ?_
  rintro _ _ ⟨rfl, rfl⟩
  refine Goes.retV X ?_
  exact ⟨rfl, rfl⟩
set_option maxRecDepth 65536 in
set_option maxHeartbeats 40000000 in
theorem D_c0 (l : Launch) (Z : State) (a0 : Array Value) (h0 : Heap) (hw : ∀ d ∈ tables_1, d.before a0 Z = true) (l'  : Addr) (sz : Int32) : Does l Z a0 h0 y_3 prog_61_method_6_code 3 none ({ frames := 0, cells := 0, slots := 0, locals := 0 } : Room) #[.ref l'] [(l', o_LL .null .null (.int sz))] (fun v F => v = none ∧ F = [(l', o_LL .null .null (.int 0))]) := by
  refine Does.mk #[.val (.ref l'), .unset, .unset] (plainFor_of_name (by decide +kernel)) (fun m => by first | (simp [entryFrame, mkF, argsToLocals, Value.category]; done) | rfl) ?_
  intro p e s m args below meth c h X
  show Goes _ _ _ _ _ _ _ _ _ _ _ _ _ _ _ _ _ _ [(l', o_LL .null .null (.int sz))] 0 0 (mkF m 0 #[.val (.ref l'), .unset, .unset] [])
  refine Goes.runS X [(.aload_n 0, 1)] (S' := [.ref l']) (pc' := 1) rfl ?_
  refine Goes.getF X 0 0 rfl rfl (wd hw 38 rfl) Via.refl ?_
  refine Goes.run X [(.astore_n 1, 1), (.aload_n 1, 1)] (L' := #[.val (.ref l'), .val .null, .unset]) (S' := [.null]) (pc' := 6) rfl ?_
  refine Goes.nullY X (o := 23) (pc' := 29) ?_
  refine Goes.runS X [(.aload_n 0, 1), (.aconst_null, 1)] (S' := [.null, .ref l']) (pc' := 31) rfl ?_
  refine Goes.putF X 0 0 rfl rfl (wd hw 38 rfl) Via.refl (Or.inl (wd hw 39 rfl)) (wd hw 27 rfl) (own_hn rfl rfl nd_LL) (ty := (.object "com/example/gapkeeper/gapkeeper/engine/Lock")) pf_6 rfl rfl ?_
  refine Goes.runS X [(.aload_n 0, 1), (.aconst_null, 1)] (S' := [.null, .ref l']) (pc' := 36) rfl ?_
  refine Goes.putF X 0 1 rfl rfl (wd hw 40 rfl) Via.refl (Or.inl (wd hw 41 rfl)) (wd hw 27 rfl) (own_hn rfl rfl nd_LL) (ty := (.object "com/example/gapkeeper/gapkeeper/engine/Lock")) pf_6 rfl rfl ?_
  refine Goes.runS X [(.aload_n 0, 1), (.iconst 0, 1)] (S' := [.int (0 : Int32), .ref l']) (pc' := 41) rfl ?_
  refine Goes.putF X 0 2 rfl rfl (wd hw 42 rfl) Via.refl (Or.inl (wd hw 43 rfl)) (wd hw 27 rfl) (own_hn rfl rfl nd_LL) (ty := .int) pf_7 rfl rfl ?_
  refine Goes.retV X ?_
  exact ⟨rfl, rfl⟩
set_option maxRecDepth 65536 in
set_option maxHeartbeats 40000000 in
theorem D_c1 (l : Launch) (Z : State) (a0 : Array Value) (h0 : Heap) (hw : ∀ d ∈ tables_1, d.before a0 Z = true) (l' a : Addr) (sz : Int32) : Does l Z a0 h0 y_3 prog_61_method_6_code 3 none ({ frames := 0, cells := 0, slots := 0, locals := 0 } : Room) #[.ref l'] [(l', o_LL (.ref a) (.ref a) (.int sz)), (a, o_Lock .null .null .null .null .null .null .null .null .null)] (fun v F => v = none ∧ F = [(l', o_LL .null .null (.int 0)), (a, o_Lock .null .null .null .null .null .null .null .null .null)]) := by
  refine Does.mk #[.val (.ref l'), .unset, .unset] (plainFor_of_name (by decide +kernel)) (fun m => by first | (simp [entryFrame, mkF, argsToLocals, Value.category]; done) | rfl) ?_
  intro p e s m args below meth c h X
  show Goes _ _ _ _ _ _ _ _ _ _ _ _ _ _ _ _ _ _ [(l', o_LL (.ref a) (.ref a) (.int sz)), (a, o_Lock .null .null .null .null .null .null .null .null .null)] 0 0 (mkF m 0 #[.val (.ref l'), .unset, .unset] [])
  refine Goes.runS X [(.aload_n 0, 1)] (S' := [.ref l']) (pc' := 1) rfl ?_
  refine Goes.getF X 0 0 rfl rfl (wd hw 38 rfl) Via.refl ?_
  refine Goes.run X [(.astore_n 1, 1), (.aload_n 1, 1)] (L' := #[.val (.ref l'), .val (.ref a), .unset]) (S' := [.ref a]) (pc' := 6) rfl ?_
  refine Goes.nullN X (o := 23) ?_
  refine Goes.runS X [(.aload_n 1, 1)] (S' := [.ref a]) (pc' := 10) rfl ?_
  refine Goes.getF X 1 8 rfl rfl (wd hw 98 rfl) Via.refl ?_
  refine Goes.run X [(.astore_n 2, 1), (.aload_n 1, 1), (.aconst_null, 1)] (L' := #[.val (.ref l'), .val (.ref a), .val .null]) (S' := [.null, .ref a]) (pc' := 16) rfl ?_
  refine Goes.putF X 1 7 rfl rfl (wd hw 97 rfl) Via.refl (Or.inl (wd hw 81 rfl)) (wd hw 5 rfl) (own_hn rfl rfl nd_Lock) (ty := (.object "com/example/gapkeeper/gapkeeper/engine/Lock")) pf_6 rfl rfl ?_
  refine Goes.runS X [(.aload_n 1, 1), (.aconst_null, 1)] (S' := [.null, .ref a]) (pc' := 21) rfl ?_
  refine Goes.putF X 1 8 rfl rfl (wd hw 98 rfl) Via.refl (Or.inl (wd hw 83 rfl)) (wd hw 5 rfl) (own_hn rfl rfl nd_Lock) (ty := (.object "com/example/gapkeeper/gapkeeper/engine/Lock")) pf_6 rfl rfl ?_
  refine Goes.run X [(.aload_n 2, 1), (.astore_n 1, 1)] (L' := #[.val (.ref l'), .val .null, .val .null]) (S' := []) (pc' := 26) rfl ?_
  refine Goes.goto X (o := (-21)) (pc' := 5) ?_
  refine Goes.runS X [(.aload_n 1, 1)] (S' := [.null]) (pc' := 6) rfl ?_
  refine Goes.nullY X (o := 23) (pc' := 29) ?_
  refine Goes.runS X [(.aload_n 0, 1), (.aconst_null, 1)] (S' := [.null, .ref l']) (pc' := 31) rfl ?_
  refine Goes.putF X 0 0 rfl rfl (wd hw 38 rfl) Via.refl (Or.inl (wd hw 39 rfl)) (wd hw 27 rfl) (own_hn rfl rfl nd_LL) (ty := (.object "com/example/gapkeeper/gapkeeper/engine/Lock")) pf_6 rfl rfl ?_
  refine Goes.runS X [(.aload_n 0, 1), (.aconst_null, 1)] (S' := [.null, .ref l']) (pc' := 36) rfl ?_
  refine Goes.putF X 0 1 rfl rfl (wd hw 40 rfl) Via.refl (Or.inl (wd hw 41 rfl)) (wd hw 27 rfl) (own_hn rfl rfl nd_LL) (ty := (.object "com/example/gapkeeper/gapkeeper/engine/Lock")) pf_6 rfl rfl ?_
  refine Goes.runS X [(.aload_n 0, 1), (.iconst 0, 1)] (S' := [.int (0 : Int32), .ref l']) (pc' := 41) rfl ?_
  refine Goes.putF X 0 2 rfl rfl (wd hw 42 rfl) Via.refl (Or.inl (wd hw 43 rfl)) (wd hw 27 rfl) (own_hn rfl rfl nd_LL) (ty := .int) pf_7 rfl rfl ?_
  refine Goes.retV X ?_
  exact ⟨rfl, rfl⟩
set_option maxRecDepth 65536 in
set_option maxHeartbeats 40000000 in
theorem D_c2 (l : Launch) (Z : State) (a0 : Array Value) (h0 : Heap) (hw : ∀ d ∈ tables_1, d.before a0 Z = true) (l' a b : Addr) (sz : Int32) : Does l Z a0 h0 y_3 prog_61_method_6_code 3 none ({ frames := 0, cells := 0, slots := 0, locals := 0 } : Room) #[.ref l'] [(l', o_LL (.ref a) (.ref b) (.int sz)), (a, o_Lock .null .null .null .null .null .null .null .null (.ref b)), (b, o_Lock .null .null .null .null .null .null .null (.ref a) .null)] (fun v F => v = none ∧ F = [(l', o_LL .null .null (.int 0)), (a, o_Lock .null .null .null .null .null .null .null .null .null), (b, o_Lock .null .null .null .null .null .null .null .null .null)]) := by
  refine Does.mk #[.val (.ref l'), .unset, .unset] (plainFor_of_name (by decide +kernel)) (fun m => by first | (simp [entryFrame, mkF, argsToLocals, Value.category]; done) | rfl) ?_
  intro p e s m args below meth c h X
  show Goes _ _ _ _ _ _ _ _ _ _ _ _ _ _ _ _ _ _ [(l', o_LL (.ref a) (.ref b) (.int sz)), (a, o_Lock .null .null .null .null .null .null .null .null (.ref b)), (b, o_Lock .null .null .null .null .null .null .null (.ref a) .null)] 0 0 (mkF m 0 #[.val (.ref l'), .unset, .unset] [])
  refine Goes.runS X [(.aload_n 0, 1)] (S' := [.ref l']) (pc' := 1) rfl ?_
  refine Goes.getF X 0 0 rfl rfl (wd hw 38 rfl) Via.refl ?_
  refine Goes.run X [(.astore_n 1, 1), (.aload_n 1, 1)] (L' := #[.val (.ref l'), .val (.ref a), .unset]) (S' := [.ref a]) (pc' := 6) rfl ?_
  refine Goes.nullN X (o := 23) ?_
  refine Goes.runS X [(.aload_n 1, 1)] (S' := [.ref a]) (pc' := 10) rfl ?_
  refine Goes.getF X 1 8 rfl rfl (wd hw 98 rfl) Via.refl ?_
  refine Goes.run X [(.astore_n 2, 1), (.aload_n 1, 1), (.aconst_null, 1)] (L' := #[.val (.ref l'), .val (.ref a), .val (.ref b)]) (S' := [.null, .ref a]) (pc' := 16) rfl ?_
  refine Goes.putF X 1 7 rfl rfl (wd hw 97 rfl) Via.refl (Or.inl (wd hw 81 rfl)) (wd hw 5 rfl) (own_hn rfl rfl nd_Lock) (ty := (.object "com/example/gapkeeper/gapkeeper/engine/Lock")) pf_6 rfl rfl ?_
  refine Goes.runS X [(.aload_n 1, 1), (.aconst_null, 1)] (S' := [.null, .ref a]) (pc' := 21) rfl ?_
  refine Goes.putF X 1 8 rfl rfl (wd hw 98 rfl) Via.refl (Or.inl (wd hw 83 rfl)) (wd hw 5 rfl) (own_hn rfl rfl nd_Lock) (ty := (.object "com/example/gapkeeper/gapkeeper/engine/Lock")) pf_6 rfl rfl ?_
  refine Goes.run X [(.aload_n 2, 1), (.astore_n 1, 1)] (L' := #[.val (.ref l'), .val (.ref b), .val (.ref b)]) (S' := []) (pc' := 26) rfl ?_
  refine Goes.goto X (o := (-21)) (pc' := 5) ?_
  refine Goes.runS X [(.aload_n 1, 1)] (S' := [.ref b]) (pc' := 6) rfl ?_
  refine Goes.nullN X (o := 23) ?_
  refine Goes.runS X [(.aload_n 1, 1)] (S' := [.ref b]) (pc' := 10) rfl ?_
  refine Goes.getF X 2 8 rfl rfl (wd hw 98 rfl) Via.refl ?_
  refine Goes.run X [(.astore_n 2, 1), (.aload_n 1, 1), (.aconst_null, 1)] (L' := #[.val (.ref l'), .val (.ref b), .val .null]) (S' := [.null, .ref b]) (pc' := 16) rfl ?_
  refine Goes.putF X 2 7 rfl rfl (wd hw 97 rfl) Via.refl (Or.inl (wd hw 81 rfl)) (wd hw 5 rfl) (own_hn rfl rfl nd_Lock) (ty := (.object "com/example/gapkeeper/gapkeeper/engine/Lock")) pf_6 rfl rfl ?_
  refine Goes.runS X [(.aload_n 1, 1), (.aconst_null, 1)] (S' := [.null, .ref b]) (pc' := 21) rfl ?_
  refine Goes.putF X 2 8 rfl rfl (wd hw 98 rfl) Via.refl (Or.inl (wd hw 83 rfl)) (wd hw 5 rfl) (own_hn rfl rfl nd_Lock) (ty := (.object "com/example/gapkeeper/gapkeeper/engine/Lock")) pf_6 rfl rfl ?_
  refine Goes.run X [(.aload_n 2, 1), (.astore_n 1, 1)] (L' := #[.val (.ref l'), .val .null, .val .null]) (S' := []) (pc' := 26) rfl ?_
  refine Goes.goto X (o := (-21)) (pc' := 5) ?_
  refine Goes.runS X [(.aload_n 1, 1)] (S' := [.null]) (pc' := 6) rfl ?_
  refine Goes.nullY X (o := 23) (pc' := 29) ?_
  refine Goes.runS X [(.aload_n 0, 1), (.aconst_null, 1)] (S' := [.null, .ref l']) (pc' := 31) rfl ?_
  refine Goes.putF X 0 0 rfl rfl (wd hw 38 rfl) Via.refl (Or.inl (wd hw 39 rfl)) (wd hw 27 rfl) (own_hn rfl rfl nd_LL) (ty := (.object "com/example/gapkeeper/gapkeeper/engine/Lock")) pf_6 rfl rfl ?_
  refine Goes.runS X [(.aload_n 0, 1), (.aconst_null, 1)] (S' := [.null, .ref l']) (pc' := 36) rfl ?_
  refine Goes.putF X 0 1 rfl rfl (wd hw 40 rfl) Via.refl (Or.inl (wd hw 41 rfl)) (wd hw 27 rfl) (own_hn rfl rfl nd_LL) (ty := (.object "com/example/gapkeeper/gapkeeper/engine/Lock")) pf_6 rfl rfl ?_
  refine Goes.runS X [(.aload_n 0, 1), (.iconst 0, 1)] (S' := [.int (0 : Int32), .ref l']) (pc' := 41) rfl ?_
  refine Goes.putF X 0 2 rfl rfl (wd hw 42 rfl) Via.refl (Or.inl (wd hw 43 rfl)) (wd hw 27 rfl) (own_hn rfl rfl nd_LL) (ty := .int) pf_7 rfl rfl ?_
  refine Goes.retV X ?_
  exact ⟨rfl, rfl⟩
set_option maxRecDepth 65536 in
set_option maxHeartbeats 40000000 in
theorem D_c3 (l : Launch) (Z : State) (a0 : Array Value) (h0 : Heap) (hw : ∀ d ∈ tables_1, d.before a0 Z = true) (l' a b c0 : Addr) (sz : Int32) : Does l Z a0 h0 y_3 prog_61_method_6_code 3 none ({ frames := 0, cells := 0, slots := 0, locals := 0 } : Room) #[.ref l'] [(l', o_LL (.ref a) (.ref c0) (.int sz)), (a, o_Lock .null .null .null .null .null .null .null .null (.ref b)), (b, o_Lock .null .null .null .null .null .null .null (.ref a) (.ref c0)), (c0, o_Lock .null .null .null .null .null .null .null (.ref b) .null)] (fun v F => v = none ∧ F = [(l', o_LL .null .null (.int 0)), (a, o_Lock .null .null .null .null .null .null .null .null .null), (b, o_Lock .null .null .null .null .null .null .null .null .null), (c0, o_Lock .null .null .null .null .null .null .null .null .null)]) := by
  refine Does.mk #[.val (.ref l'), .unset, .unset] (plainFor_of_name (by decide +kernel)) (fun m => by first | (simp [entryFrame, mkF, argsToLocals, Value.category]; done) | rfl) ?_
  intro p e s m args below meth c h X
  show Goes _ _ _ _ _ _ _ _ _ _ _ _ _ _ _ _ _ _ [(l', o_LL (.ref a) (.ref c0) (.int sz)), (a, o_Lock .null .null .null .null .null .null .null .null (.ref b)), (b, o_Lock .null .null .null .null .null .null .null (.ref a) (.ref c0)), (c0, o_Lock .null .null .null .null .null .null .null (.ref b) .null)] 0 0 (mkF m 0 #[.val (.ref l'), .unset, .unset] [])
  refine Goes.runS X [(.aload_n 0, 1)] (S' := [.ref l']) (pc' := 1) rfl ?_
  refine Goes.getF X 0 0 rfl rfl (wd hw 38 rfl) Via.refl ?_
  refine Goes.run X [(.astore_n 1, 1), (.aload_n 1, 1)] (L' := #[.val (.ref l'), .val (.ref a), .unset]) (S' := [.ref a]) (pc' := 6) rfl ?_
  refine Goes.nullN X (o := 23) ?_
  refine Goes.runS X [(.aload_n 1, 1)] (S' := [.ref a]) (pc' := 10) rfl ?_
  refine Goes.getF X 1 8 rfl rfl (wd hw 98 rfl) Via.refl ?_
  refine Goes.run X [(.astore_n 2, 1), (.aload_n 1, 1), (.aconst_null, 1)] (L' := #[.val (.ref l'), .val (.ref a), .val (.ref b)]) (S' := [.null, .ref a]) (pc' := 16) rfl ?_
  refine Goes.putF X 1 7 rfl rfl (wd hw 97 rfl) Via.refl (Or.inl (wd hw 81 rfl)) (wd hw 5 rfl) (own_hn rfl rfl nd_Lock) (ty := (.object "com/example/gapkeeper/gapkeeper/engine/Lock")) pf_6 rfl rfl ?_
  refine Goes.runS X [(.aload_n 1, 1), (.aconst_null, 1)] (S' := [.null, .ref a]) (pc' := 21) rfl ?_
  refine Goes.putF X 1 8 rfl rfl (wd hw 98 rfl) Via.refl (Or.inl (wd hw 83 rfl)) (wd hw 5 rfl) (own_hn rfl rfl nd_Lock) (ty := (.object "com/example/gapkeeper/gapkeeper/engine/Lock")) pf_6 rfl rfl ?_
  refine Goes.run X [(.aload_n 2, 1), (.astore_n 1, 1)] (L' := #[.val (.ref l'), .val (.ref b), .val (.ref b)]) (S' := []) (pc' := 26) rfl ?_
  refine Goes.goto X (o := (-21)) (pc' := 5) ?_
  refine Goes.runS X [(.aload_n 1, 1)] (S' := [.ref b]) (pc' := 6) rfl ?_
  refine Goes.nullN X (o := 23) ?_
  refine Goes.runS X [(.aload_n 1, 1)] (S' := [.ref b]) (pc' := 10) rfl ?_
  refine Goes.getF X 2 8 rfl rfl (wd hw 98 rfl) Via.refl ?_
  refine Goes.run X [(.astore_n 2, 1), (.aload_n 1, 1), (.aconst_null, 1)] (L' := #[.val (.ref l'), .val (.ref b), .val (.ref c0)]) (S' := [.null, .ref b]) (pc' := 16) rfl ?_
  refine Goes.putF X 2 7 rfl rfl (wd hw 97 rfl) Via.refl (Or.inl (wd hw 81 rfl)) (wd hw 5 rfl) (own_hn rfl rfl nd_Lock) (ty := (.object "com/example/gapkeeper/gapkeeper/engine/Lock")) pf_6 rfl rfl ?_
  refine Goes.runS X [(.aload_n 1, 1), (.aconst_null, 1)] (S' := [.null, .ref b]) (pc' := 21) rfl ?_
  refine Goes.putF X 2 8 rfl rfl (wd hw 98 rfl) Via.refl (Or.inl (wd hw 83 rfl)) (wd hw 5 rfl) (own_hn rfl rfl nd_Lock) (ty := (.object "com/example/gapkeeper/gapkeeper/engine/Lock")) pf_6 rfl rfl ?_
  refine Goes.run X [(.aload_n 2, 1), (.astore_n 1, 1)] (L' := #[.val (.ref l'), .val (.ref c0), .val (.ref c0)]) (S' := []) (pc' := 26) rfl ?_
  refine Goes.goto X (o := (-21)) (pc' := 5) ?_
  refine Goes.runS X [(.aload_n 1, 1)] (S' := [.ref c0]) (pc' := 6) rfl ?_
  refine Goes.nullN X (o := 23) ?_
  refine Goes.runS X [(.aload_n 1, 1)] (S' := [.ref c0]) (pc' := 10) rfl ?_
  refine Goes.getF X 3 8 rfl rfl (wd hw 98 rfl) Via.refl ?_
  refine Goes.run X [(.astore_n 2, 1), (.aload_n 1, 1), (.aconst_null, 1)] (L' := #[.val (.ref l'), .val (.ref c0), .val .null]) (S' := [.null, .ref c0]) (pc' := 16) rfl ?_
  refine Goes.putF X 3 7 rfl rfl (wd hw 97 rfl) Via.refl (Or.inl (wd hw 81 rfl)) (wd hw 5 rfl) (own_hn rfl rfl nd_Lock) (ty := (.object "com/example/gapkeeper/gapkeeper/engine/Lock")) pf_6 rfl rfl ?_
  refine Goes.runS X [(.aload_n 1, 1), (.aconst_null, 1)] (S' := [.null, .ref c0]) (pc' := 21) rfl ?_
  refine Goes.putF X 3 8 rfl rfl (wd hw 98 rfl) Via.refl (Or.inl (wd hw 83 rfl)) (wd hw 5 rfl) (own_hn rfl rfl nd_Lock) (ty := (.object "com/example/gapkeeper/gapkeeper/engine/Lock")) pf_6 rfl rfl ?_
  refine Goes.run X [(.aload_n 2, 1), (.astore_n 1, 1)] (L' := #[.val (.ref l'), .val .null, .val .null]) (S' := []) (pc' := 26) rfl ?_
  refine Goes.goto X (o := (-21)) (pc' := 5) ?_
  refine Goes.runS X [(.aload_n 1, 1)] (S' := [.null]) (pc' := 6) rfl ?_
  refine Goes.nullY X (o := 23) (pc' := 29) ?_
  refine Goes.runS X [(.aload_n 0, 1), (.aconst_null, 1)] (S' := [.null, .ref l']) (pc' := 31) rfl ?_
  refine Goes.putF X 0 0 rfl rfl (wd hw 38 rfl) Via.refl (Or.inl (wd hw 39 rfl)) (wd hw 27 rfl) (own_hn rfl rfl nd_LL) (ty := (.object "com/example/gapkeeper/gapkeeper/engine/Lock")) pf_6 rfl rfl ?_
  refine Goes.runS X [(.aload_n 0, 1), (.aconst_null, 1)] (S' := [.null, .ref l']) (pc' := 36) rfl ?_
  refine Goes.putF X 0 1 rfl rfl (wd hw 40 rfl) Via.refl (Or.inl (wd hw 41 rfl)) (wd hw 27 rfl) (own_hn rfl rfl nd_LL) (ty := (.object "com/example/gapkeeper/gapkeeper/engine/Lock")) pf_6 rfl rfl ?_
  refine Goes.runS X [(.aload_n 0, 1), (.iconst 0, 1)] (S' := [.int (0 : Int32), .ref l']) (pc' := 41) rfl ?_
  refine Goes.putF X 0 2 rfl rfl (wd hw 42 rfl) Via.refl (Or.inl (wd hw 43 rfl)) (wd hw 27 rfl) (own_hn rfl rfl nd_LL) (ty := .int) pf_7 rfl rfl ?_
  refine Goes.retV X ?_
  exact ⟨rfl, rfl⟩
set_option maxRecDepth 65536 in
set_option maxHeartbeats 40000000 in
theorem D_size (l : Launch) (Z : State) (a0 : Array Value) (h0 : Heap) (hw : ∀ d ∈ tables_1, d.before a0 Z = true) (l' : Addr) : Does l Z a0 h0 y_4 prog_61_method_9_code 1 (some .int) ({ frames := 0, cells := 0, slots := 0, locals := 0 } : Room) #[.ref l'] [(l', o_LL .null .null (.int 0))] (fun v F => v = some (.int 0) ∧ F = [(l', o_LL .null .null (.int 0))]) := by
  refine Does.mk #[.val (.ref l')] (plainFor_of_name (by decide +kernel)) (fun m => by first | (simp [entryFrame, mkF, argsToLocals, Value.category]; done) | rfl) ?_
  intro p e s m args below meth c h X
  show Goes _ _ _ _ _ _ _ _ _ _ _ _ _ _ _ _ _ _ [(l', o_LL .null .null (.int 0))] 0 0 (mkF m 0 #[.val (.ref l')] [])
  refine Goes.runS X [(.aload_n 0, 1)] (S' := [.ref l']) (pc' := 1) rfl ?_
  refine Goes.getF X 0 2 rfl rfl (wd hw 42 rfl) Via.refl ?_
  refine Goes.retI X (by simp) rfl ?_
  exact ⟨rfl, rfl⟩
set_option maxRecDepth 65536 in
set_option maxHeartbeats 40000000 in
theorem D_last (l : Launch) (Z : State) (a0 : Array Value) (h0 : Heap) (hw : ∀ d ∈ tables_1, d.before a0 Z = true) (l' : Addr) : Does l Z a0 h0 y_5 prog_61_method_7_code 1 (some (.object "com/example/gapkeeper/gapkeeper/engine/Lock")) ({ frames := 0, cells := 0, slots := 0, locals := 0 } : Room) #[.ref l'] [(l', o_LL .null .null (.int 0))] (fun v F => v = some .null ∧ F = [(l', o_LL .null .null (.int 0))]) := by
  refine Does.mk #[.val (.ref l')] (plainFor_of_name (by decide +kernel)) (fun m => by first | (simp [entryFrame, mkF, argsToLocals, Value.category]; done) | rfl) ?_
  intro p e s m args below meth c h X
  show Goes _ _ _ _ _ _ _ _ _ _ _ _ _ _ _ _ _ _ [(l', o_LL .null .null (.int 0))] 0 0 (mkF m 0 #[.val (.ref l')] [])
  refine Goes.runS X [(.aload_n 0, 1)] (S' := [.ref l']) (pc' := 1) rfl ?_
  refine Goes.getF X 0 1 rfl rfl (wd hw 40 rfl) Via.refl ?_
  refine Goes.retA X rfl rfl rfl ?_
  exact ⟨rfl, rfl⟩
theorem pf_8 : parseFieldDescriptor "Lcom/example/gapkeeper/gapkeeper/engine/LockList;" = some (.object "com/example/gapkeeper/gapkeeper/engine/LockList") := by decide +kernel
set_option maxRecDepth 65536 in
set_option maxHeartbeats 40000000 in
theorem D_ictor (l : Launch) (Z : State) (a0 : Array Value) (h0 : Heap) (hw : ∀ d ∈ tables_1, d.before a0 Z = true) (a l' : Addr) : Does l Z a0 h0 y_7 prog_62_method_1_code 2 none ({ frames := 1, cells := 0, slots := 0, locals := 12 } : Room) #[.ref a, .ref l'] [(a, o_It .null .null), (l', o_LL .null .null (.int 0))] (fun v F => v = none ∧ F = [(a, o_It (.ref l') .null), (l', o_LL .null .null (.int 0))]) := by
  refine Does.mk #[.val (.ref a), .val (.ref l')] (plainFor_of_name (by decide +kernel)) (fun m => by first | (simp [entryFrame, mkF, argsToLocals, Value.category]; done) | rfl) ?_
  intro p e s m args below meth c h X
  show Goes _ _ _ _ _ _ _ _ _ _ _ _ _ _ _ _ _ _ [(a, o_It .null .null), (l', o_LL .null .null (.int 0))] 0 0 (mkF m 0 #[.val (.ref a), .val (.ref l')] [])
  refine Goes.runS X [(.aload_n 0, 1), (.aload_n 1, 1)] (S' := [.ref l', .ref a]) (pc' := 2) rfl ?_
  refine Goes.putF X 0 0 rfl rfl (wd hw 65 rfl) Via.refl (Or.inr ⟨(wd hw 66 rfl), rfl, rfl⟩) (wd hw 60 rfl) (own_hn rfl rfl nd_It) (ty := (.object "com/example/gapkeeper/gapkeeper/engine/LockList")) pf_8 rfl rfl ?_
  refine Goes.runS X [(.aload_n 0, 1)] (S' := [.ref a]) (pc' := 6) rfl ?_
  refine Goes.initO X 0 (wd hw 67 rfl) (wd hw 10 rfl) (wd hw 11 rfl) rfl ?_
  refine Goes.runS X [(.aload_n 0, 1), (.aload_n 0, 1)] (S' := [.ref a, .ref a]) (pc' := 11) rfl ?_
  refine Goes.getF X 0 0 rfl rfl (wd hw 65 rfl) Via.refl ?_
  refine Goes.getFN X 1 0 rfl rfl (wd hw 68 rfl) Via.refl ?_
  refine Goes.putF X 0 1 rfl rfl (wd hw 69 rfl) Via.refl (Or.inl (wd hw 70 rfl)) (wd hw 60 rfl) (own_hn rfl rfl nd_It) (ty := (.object "com/example/gapkeeper/gapkeeper/engine/Lock")) pf_6 rfl rfl ?_
  refine Goes.retV X ?_
  exact ⟨rfl, rfl⟩
set_option maxRecDepth 65536 in
set_option maxHeartbeats 40000000 in
theorem D_iter (l : Launch) (Z : State) (a0 : Array Value) (h0 : Heap) (hw : ∀ d ∈ tables_1, d.before a0 Z = true) (l' : Addr) : Does l Z a0 h0 y_6 prog_61_method_10_code 1 (some (.object "java/util/Iterator")) ({ frames := 2, cells := 1, slots := 2, locals := 26 } : Room) #[.ref l'] [(l', o_LL .null .null (.int 0))] (fun v F => ∃ a, v = some (.ref a) ∧ F = [(a, o_It (.ref l') .null), (l', o_LL .null .null (.int 0))]) := by
  refine Does.mk #[.val (.ref l')] (plainFor_of_name (by decide +kernel)) (fun m => by first | (simp [entryFrame, mkF, argsToLocals, Value.category]; done) | rfl) ?_
  intro p e s m args below meth c h X
  show Goes _ _ _ _ _ _ _ _ _ _ _ _ _ _ _ _ _ _ [(l', o_LL .null .null (.int 0))] 0 0 (mkF m 0 #[.val (.ref l')] [])
  refine Goes.new X _ (wd hw 59 rfl) (wd hw 60 rfl) (wd hw 61 rfl) (new_It hw) (fun a2 => ?_)
  refine Goes.runS X [(.dup, 1), (.aload_n 0, 1)] (S' := [.ref l', .ref a2, .ref a2]) (pc' := 5) rfl ?_
  refine Goes.callN X 1 [1, 0] [] (D_ictor l Z a0 h0 hw a2 l') rfl (wd hw 62 rfl) (wd hw 63 rfl) (wd hw 61 rfl) (wd hw 64 rfl) pd_y_7 rfl (st := [.ref a2]) rfl rfl (G := []) rfl rfl ?_
  rintro _ _ ⟨rfl, rfl⟩
  refine Goes.retA X rfl rfl rfl ?_
  exact ⟨a2, rfl, rfl⟩
set_option maxRecDepth 65536 in
set_option maxHeartbeats 40000000 in
theorem D_hasN (l : Launch) (Z : State) (a0 : Array Value) (h0 : Heap) (hw : ∀ d ∈ tables_1, d.before a0 Z = true) (a : Addr) (t : Value) : Does l Z a0 h0 y_8 prog_62_method_2_code 1 (some .boolean) ({ frames := 0, cells := 0, slots := 0, locals := 0 } : Room) #[.ref a] [(a, o_It (t) .null)] (fun v F => v = some (.int 0) ∧ F = [(a, o_It (t) .null)]) := by
  refine Does.mk #[.val (.ref a)] (plainFor_of_name (by decide +kernel)) (fun m => by first | (simp [entryFrame, mkF, argsToLocals, Value.category]; done) | rfl) ?_
  intro p e s m args below meth c h X
  show Goes _ _ _ _ _ _ _ _ _ _ _ _ _ _ _ _ _ _ [(a, o_It (t) .null)] 0 0 (mkF m 0 #[.val (.ref a)] [])
  refine Goes.runS X [(.aload_n 0, 1)] (S' := [.ref a]) (pc' := 1) rfl ?_
  refine Goes.getF X 0 1 rfl rfl (wd hw 69 rfl) Via.refl ?_
  refine Goes.nullY X (o := 7) (pc' := 11) ?_
  refine Goes.runS X [(.iconst 0, 1)] (S' := [.int (0 : Int32)]) (pc' := 12) rfl ?_
  refine Goes.retI X (by simp) rfl ?_
  exact ⟨rfl, rfl⟩
theorem own_case4 (x : Int32) : x &&& 3 = 0 ∨ x &&& 3 = 1 ∨ x &&& 3 = 2 ∨ x &&& 3 = 3 := by
  obtain ⟨h0, h1⟩ := own_mask x 3 (by decide)
  have h1' : (x &&& 3).toInt ≤ 3 := h1
  have : (x &&& 3).toInt = 0 ∨ (x &&& 3).toInt = 1 ∨ (x &&& 3).toInt = 2 ∨ (x &&& 3).toInt = 3 := by omega
  generalize (x &&& 3) = r at *
  rcases this with h | h | h | h <;> simp [← Int32.toInt_inj, h]
abbrev y_12 : MethodName := ⟨"java/util/Iterator", "hasNext", "()Z"⟩
theorem pd_y_12 : parseMethodDescriptor y_12.desc = some ⟨[], some .boolean⟩ := by decide +kernel
set_option maxRecDepth 65536 in
set_option maxHeartbeats 40000000 in
theorem D_law (l : Launch) (Z : State) (a0 : Array Value) (h0 : Heap) (hw : ∀ d ∈ tables_1, d.before a0 Z = true) (n : Int32) : Does l Z a0 h0 x code maxLocals ret room_1 #[.int n] [] (fun v F => v = some (.int 1)) := by
  refine Does.mk #[.val (.int n), .unset, .unset, .unset, .unset, .unset, .unset, .unset] (plainFor_of_name (by decide +kernel)) (fun m => by first | (simp [entryFrame, mkF, argsToLocals, Value.category, maxLocals]; done) | rfl) ?_
  intro p e s m args below meth c h X
  rcases own_case4 n with e0 | e1 | e2 | e3
  · refine Goes.run X [(.iload_n 0, 1), (.iconst 3, 1), (.iand, 1), (.istore_n 1, 1)] (L' := #[.val (.int n), .val (.int (n &&& (3 : Int32))), .unset, .unset, .unset, .unset, .unset, .unset]) (S' := []) (pc' := 4) rfl ?_
    rw [e0]
    show Goes _ _ _ _ _ _ _ _ _ _ _ _ _ _ _ _ _ _ [] 0 0 (mkF m 4 #[.val (.int n), .val (.int (0 : Int32)), .unset, .unset, .unset, .unset, .unset, .unset] [])
    refine Goes.runS X [(.aconst_null, 1), (.aconst_null, 1), (.aconst_null, 1)] (S' := [.null, .null, .null]) (pc' := 7) rfl ?_
    refine Goes.callS X 0 [] [] (D_onT l Z a0 h0 hw ) (wd hw 0 rfl) (wd hw 1 rfl) (wd hw 2 rfl) (wd hw 3 rfl) pd_y_0 rfl (st := []) rfl rfl (G := []) rfl rfl ?_
    rintro _ _ ⟨k3, rfl, rfl⟩
    refine Goes.run X [(.astore_n 2, 1), (.aconst_null, 1), (.aconst_null, 1), (.aconst_null, 1)] (L' := #[.val (.int n), .val (.int (0 : Int32)), .val (.ref k3), .unset, .unset, .unset, .unset, .unset]) (S' := [.null, .null, .null]) (pc' := 14) rfl ?_
    refine Goes.callS X 0 [] [0] (D_onT l Z a0 h0 hw ) (wd hw 0 rfl) (wd hw 1 rfl) (wd hw 2 rfl) (wd hw 3 rfl) pd_y_0 rfl (st := []) rfl rfl (G := [(k3, o_Lock .null .null .null .null .null .null .null .null .null)]) rfl rfl ?_
    rintro _ _ ⟨k4, rfl, rfl⟩
    refine Goes.run X [(.astore_n 3, 1), (.aconst_null, 1), (.aconst_null, 1), (.aconst_null, 1)] (L' := #[.val (.int n), .val (.int (0 : Int32)), .val (.ref k3), .val (.ref k4), .unset, .unset, .unset, .unset]) (S' := [.null, .null, .null]) (pc' := 21) rfl ?_
    refine Goes.callS X 0 [] [0, 1] (D_onT l Z a0 h0 hw ) (wd hw 0 rfl) (wd hw 1 rfl) (wd hw 2 rfl) (wd hw 3 rfl) pd_y_0 rfl (st := []) rfl rfl (G := [(k4, o_Lock .null .null .null .null .null .null .null .null .null), (k3, o_Lock .null .null .null .null .null .null .null .null .null)]) rfl rfl ?_
    rintro _ _ ⟨k5, rfl, rfl⟩
    refine Goes.run X [(.astore 4, 2)] (L' := #[.val (.int n), .val (.int (0 : Int32)), .val (.ref k3), .val (.ref k4), .val (.ref k5), .unset, .unset, .unset]) (S' := []) (pc' := 26) rfl ?_
    refine Goes.new X _ (wd hw 26 rfl) (wd hw 27 rfl) (wd hw 28 rfl) (new_LL hw) (fun a6 => ?_)
    refine Goes.runS X [(.dup, 1)] (S' := [.ref a6, .ref a6]) (pc' := 30) rfl ?_
    refine Goes.callN X 1 [3] [0, 1, 2] (D_lctor l Z a0 h0 hw a6) rfl (wd hw 29 rfl) (wd hw 30 rfl) (wd hw 28 rfl) (wd hw 31 rfl) pd_y_2 rfl (st := [.ref a6]) rfl rfl (G := [(k5, o_Lock .null .null .null .null .null .null .null .null .null), (k4, o_Lock .null .null .null .null .null .null .null .null .null), (k3, o_Lock .null .null .null .null .null .null .null .null .null)]) rfl rfl ?_
    rintro _ _ ⟨rfl, rfl⟩
    refine Goes.run X [(.astore 5, 2), (.iload_n 1, 1), (.iconst 1, 1)] (L' := #[.val (.int n), .val (.int (0 : Int32)), .val (.ref k3), .val (.ref k4), .val (.ref k5), .val (.ref a6), .unset, .unset]) (S' := [.int (1 : Int32), .int (0 : Int32)]) (pc' := 37) rfl ?_
    refine Goes.if2 X (pc' := 46) (o := 9) (cd := .lt) (fun _ => ?_) (fun q => absurd q (by decide))
    refine Goes.runS X [(.iload_n 1, 1), (.iconst 2, 1)] (S' := [.int (2 : Int32), .int (0 : Int32)]) (pc' := 48) rfl ?_
    refine Goes.if2 X (pc' := 57) (o := 9) (cd := .lt) (fun _ => ?_) (fun q => absurd q (by decide))
    refine Goes.runS X [(.iload_n 1, 1), (.iconst 3, 1)] (S' := [.int (3 : Int32), .int (0 : Int32)]) (pc' := 59) rfl ?_
    refine Goes.if2 X (pc' := 69) (o := 10) (cd := .lt) (fun _ => ?_) (fun q => absurd q (by decide))
    refine Goes.runS X [(.aload 5, 2)] (S' := [.ref a6]) (pc' := 71) rfl ?_
    refine Goes.callV X 0 0 [0] [1, 2, 3] rfl (D_c0 l Z a0 h0 hw a6 (0)) (wd hw 33 rfl) (wd hw 34 rfl) (wd hw 36 rfl) (wd hw 35 rfl) (own_nf X (wd hw 36 rfl)) (wd hw 28 rfl) (wd hw 37 rfl) pd_y_3 rfl (st := []) rfl rfl (G := [(k5, o_Lock .null .null .null .null .null .null .null .null .null), (k4, o_Lock .null .null .null .null .null .null .null .null .null), (k3, o_Lock .null .null .null .null .null .null .null .null .null)]) rfl rfl ?_
    rintro _ _ ⟨rfl, rfl⟩
    refine Goes.runS X [(.aload 5, 2)] (S' := [.ref a6]) (pc' := 76) rfl ?_
    refine Goes.callV X 0 0 [0] [1, 2, 3] rfl (D_size l Z a0 h0 hw a6) (wd hw 44 rfl) (wd hw 45 rfl) (wd hw 47 rfl) (wd hw 46 rfl) (own_nf X (wd hw 47 rfl)) (wd hw 28 rfl) (wd hw 48 rfl) pd_y_4 rfl (st := []) rfl rfl (G := [(k5, o_Lock .null .null .null .null .null .null .null .null .null), (k4, o_Lock .null .null .null .null .null .null .null .null .null), (k3, o_Lock .null .null .null .null .null .null .null .null .null)]) rfl rfl ?_
    rintro _ _ ⟨rfl, rfl⟩
    refine Goes.if1 X (pc' := 107) (o := 28) (cd := .ne) (fun q => absurd q (by decide)) (fun _ => ?_)
    refine Goes.runS X [(.aload 5, 2)] (S' := [.ref a6]) (pc' := 84) rfl ?_
    refine Goes.callV X 0 0 [0] [1, 2, 3] rfl (D_last l Z a0 h0 hw a6) (wd hw 49 rfl) (wd hw 50 rfl) (wd hw 52 rfl) (wd hw 51 rfl) (own_nf X (wd hw 52 rfl)) (wd hw 28 rfl) (wd hw 53 rfl) pd_y_5 rfl (st := []) rfl rfl (G := [(k5, o_Lock .null .null .null .null .null .null .null .null .null), (k4, o_Lock .null .null .null .null .null .null .null .null .null), (k3, o_Lock .null .null .null .null .null .null .null .null .null)]) rfl rfl ?_
    rintro _ _ ⟨rfl, rfl⟩
    refine Goes.nonN X (o := 20) ?_
    refine Goes.runS X [(.aload 5, 2)] (S' := [.ref a6]) (pc' := 92) rfl ?_
    refine Goes.callV X 0 0 [0] [1, 2, 3] rfl (D_iter l Z a0 h0 hw a6) (wd hw 54 rfl) (wd hw 55 rfl) (wd hw 57 rfl) (wd hw 56 rfl) (own_nf X (wd hw 57 rfl)) (wd hw 28 rfl) (wd hw 58 rfl) pd_y_6 rfl (st := []) rfl rfl (G := [(k5, o_Lock .null .null .null .null .null .null .null .null .null), (k4, o_Lock .null .null .null .null .null .null .null .null .null), (k3, o_Lock .null .null .null .null .null .null .null .null .null)]) rfl rfl ?_
    rintro _ _ ⟨i7, rfl, rfl⟩
    refine Goes.callI X (count := 1) 0 0 [0] [1, 2, 3, 4] rfl (D_hasN l Z a0 h0 hw i7 (.ref a6)) (wd hw 71 rfl) (wd hw 72 rfl) (wd hw 73 rfl) (wd hw 74 rfl) (wd hw 75 rfl) (wd hw 76 rfl) (wd hw 77 rfl) (wd hw 78 rfl) (wd hw 61 rfl) (wd hw 79 rfl) pd_y_12 rfl (st := []) rfl rfl (G := [(a6, o_LL .null .null (.int 0)), (k5, o_Lock .null .null .null .null .null .null .null .null .null), (k4, o_Lock .null .null .null .null .null .null .null .null .null), (k3, o_Lock .null .null .null .null .null .null .null .null .null)]) rfl rfl ?_
    rintro _ _ ⟨rfl, rfl⟩
    refine Goes.if1 X (pc' := 107) (o := 7) (cd := .ne) (fun q => absurd q (by decide)) (fun _ => ?_)
    refine Goes.runS X [(.iconst 1, 1)] (S' := [.int (1 : Int32)]) (pc' := 104) rfl ?_
    refine Goes.goto X (o := 4) (pc' := 108) ?_
    refine Goes.run X [(.istore 6, 2), (.aload_n 2, 1)] (L' := #[.val (.int n), .val (.int (0 : Int32)), .val (.ref k3), .val (.ref k4), .val (.ref k5), .val (.ref a6), .val (.int (1 : Int32)), .unset]) (S' := [.ref k3]) (pc' := 111) rfl ?_
    refine Goes.getF X 4 7 rfl rfl (wd hw 80 rfl) Via.refl ?_
    refine Goes.nonN X (o := 44) ?_
    refine Goes.runS X [(.aload_n 2, 1)] (S' := [.ref k3]) (pc' := 118) rfl ?_
    refine Goes.getF X 4 8 rfl rfl (wd hw 82 rfl) Via.refl ?_
    refine Goes.nonN X (o := 37) ?_
    refine Goes.runS X [(.aload_n 3, 1)] (S' := [.ref k4]) (pc' := 125) rfl ?_
    refine Goes.getF X 3 7 rfl rfl (wd hw 80 rfl) Via.refl ?_
    refine Goes.nonN X (o := 30) ?_
    refine Goes.runS X [(.aload_n 3, 1)] (S' := [.ref k4]) (pc' := 132) rfl ?_
    refine Goes.getF X 3 8 rfl rfl (wd hw 82 rfl) Via.refl ?_
    refine Goes.nonN X (o := 23) ?_
    refine Goes.runS X [(.aload 4, 2)] (S' := [.ref k5]) (pc' := 140) rfl ?_
    refine Goes.getF X 2 7 rfl rfl (wd hw 80 rfl) Via.refl ?_
    refine Goes.nonN X (o := 15) ?_
    refine Goes.runS X [(.aload 4, 2)] (S' := [.ref k5]) (pc' := 148) rfl ?_
    refine Goes.getF X 2 8 rfl rfl (wd hw 82 rfl) Via.refl ?_
    refine Goes.nonN X (o := 7) ?_
    refine Goes.runS X [(.iconst 1, 1)] (S' := [.int (1 : Int32)]) (pc' := 155) rfl ?_
    refine Goes.goto X (o := 4) (pc' := 159) ?_
    refine Goes.run X [(.istore 7, 2), (.iload 6, 2)] (L' := #[.val (.int n), .val (.int (0 : Int32)), .val (.ref k3), .val (.ref k4), .val (.ref k5), .val (.ref a6), .val (.int (1 : Int32)), .val (.int (1 : Int32))]) (S' := [.int (1 : Int32)]) (pc' := 163) rfl ?_
    refine Goes.if1 X (pc' := 175) (o := 12) (cd := .eq) (fun q => absurd q (by decide)) (fun _ => ?_)
    refine Goes.runS X [(.iload 7, 2)] (S' := [.int (1 : Int32)]) (pc' := 168) rfl ?_
    refine Goes.if1 X (pc' := 175) (o := 7) (cd := .eq) (fun q => absurd q (by decide)) (fun _ => ?_)
    refine Goes.runS X [(.iconst 1, 1)] (S' := [.int (1 : Int32)]) (pc' := 172) rfl ?_
    refine Goes.goto X (o := 4) (pc' := 176) ?_
    refine Goes.retI X (by simp) rfl ?_
    exact rfl
  · refine Goes.run X [(.iload_n 0, 1), (.iconst 3, 1), (.iand, 1), (.istore_n 1, 1)] (L' := #[.val (.int n), .val (.int (n &&& (3 : Int32))), .unset, .unset, .unset, .unset, .unset, .unset]) (S' := []) (pc' := 4) rfl ?_
    rw [e1]
    show Goes _ _ _ _ _ _ _ _ _ _ _ _ _ _ _ _ _ _ [] 0 0 (mkF m 4 #[.val (.int n), .val (.int (1 : Int32)), .unset, .unset, .unset, .unset, .unset, .unset] [])
    refine Goes.runS X [(.aconst_null, 1), (.aconst_null, 1), (.aconst_null, 1)] (S' := [.null, .null, .null]) (pc' := 7) rfl ?_
    refine Goes.callS X 0 [] [] (D_onT l Z a0 h0 hw ) (wd hw 0 rfl) (wd hw 1 rfl) (wd hw 2 rfl) (wd hw 3 rfl) pd_y_0 rfl (st := []) rfl rfl (G := []) rfl rfl ?_
    rintro _ _ ⟨k8, rfl, rfl⟩
    refine Goes.run X [(.astore_n 2, 1), (.aconst_null, 1), (.aconst_null, 1), (.aconst_null, 1)] (L' := #[.val (.int n), .val (.int (1 : Int32)), .val (.ref k8), .unset, .unset, .unset, .unset, .unset]) (S' := [.null, .null, .null]) (pc' := 14) rfl ?_
    refine Goes.callS X 0 [] [0] (D_onT l Z a0 h0 hw ) (wd hw 0 rfl) (wd hw 1 rfl) (wd hw 2 rfl) (wd hw 3 rfl) pd_y_0 rfl (st := []) rfl rfl (G := [(k8, o_Lock .null .null .null .null .null .null .null .null .null)]) rfl rfl ?_
    rintro _ _ ⟨k9, rfl, rfl⟩
    refine Goes.run X [(.astore_n 3, 1), (.aconst_null, 1), (.aconst_null, 1), (.aconst_null, 1)] (L' := #[.val (.int n), .val (.int (1 : Int32)), .val (.ref k8), .val (.ref k9), .unset, .unset, .unset, .unset]) (S' := [.null, .null, .null]) (pc' := 21) rfl ?_
    refine Goes.callS X 0 [] [0, 1] (D_onT l Z a0 h0 hw ) (wd hw 0 rfl) (wd hw 1 rfl) (wd hw 2 rfl) (wd hw 3 rfl) pd_y_0 rfl (st := []) rfl rfl (G := [(k9, o_Lock .null .null .null .null .null .null .null .null .null), (k8, o_Lock .null .null .null .null .null .null .null .null .null)]) rfl rfl ?_
    rintro _ _ ⟨k10, rfl, rfl⟩
    refine Goes.run X [(.astore 4, 2)] (L' := #[.val (.int n), .val (.int (1 : Int32)), .val (.ref k8), .val (.ref k9), .val (.ref k10), .unset, .unset, .unset]) (S' := []) (pc' := 26) rfl ?_
    refine Goes.new X _ (wd hw 26 rfl) (wd hw 27 rfl) (wd hw 28 rfl) (new_LL hw) (fun a11 => ?_)
    refine Goes.runS X [(.dup, 1)] (S' := [.ref a11, .ref a11]) (pc' := 30) rfl ?_
    refine Goes.callN X 1 [3] [0, 1, 2] (D_lctor l Z a0 h0 hw a11) rfl (wd hw 29 rfl) (wd hw 30 rfl) (wd hw 28 rfl) (wd hw 31 rfl) pd_y_2 rfl (st := [.ref a11]) rfl rfl (G := [(k10, o_Lock .null .null .null .null .null .null .null .null .null), (k9, o_Lock .null .null .null .null .null .null .null .null .null), (k8, o_Lock .null .null .null .null .null .null .null .null .null)]) rfl rfl ?_
    rintro _ _ ⟨rfl, rfl⟩
    refine Goes.run X [(.astore 5, 2), (.iload_n 1, 1), (.iconst 1, 1)] (L' := #[.val (.int n), .val (.int (1 : Int32)), .val (.ref k8), .val (.ref k9), .val (.ref k10), .val (.ref a11), .unset, .unset]) (S' := [.int (1 : Int32), .int (1 : Int32)]) (pc' := 37) rfl ?_
    refine Goes.if2 X (pc' := 46) (o := 9) (cd := .lt) (fun q => absurd q (by decide)) (fun _ => ?_)
    refine Goes.runS X [(.aload 5, 2), (.aload_n 2, 1)] (S' := [.ref k8, .ref a11]) (pc' := 43) rfl ?_
    refine Goes.callV X 0 0 [0, 3] [1, 2] rfl (D_a0 l Z a0 h0 hw a11 k8 .null .null .null 0) (wd hw 84 rfl) (wd hw 85 rfl) (wd hw 87 rfl) (wd hw 86 rfl) (own_nf X (wd hw 87 rfl)) (wd hw 28 rfl) (wd hw 88 rfl) pd_y_9 rfl (st := []) rfl rfl (G := [(k10, o_Lock .null .null .null .null .null .null .null .null .null), (k9, o_Lock .null .null .null .null .null .null .null .null .null)]) rfl rfl ?_
    rintro _ _ ⟨rfl, rfl⟩
    refine Goes.runS X [(.iload_n 1, 1), (.iconst 2, 1)] (S' := [.int (2 : Int32), .int (1 : Int32)]) (pc' := 48) rfl ?_
    refine Goes.if2 X (pc' := 57) (o := 9) (cd := .lt) (fun _ => ?_) (fun q => absurd q (by decide))
    refine Goes.runS X [(.iload_n 1, 1), (.iconst 3, 1)] (S' := [.int (3 : Int32), .int (1 : Int32)]) (pc' := 59) rfl ?_
    refine Goes.if2 X (pc' := 69) (o := 10) (cd := .lt) (fun _ => ?_) (fun q => absurd q (by decide))
    refine Goes.runS X [(.aload 5, 2)] (S' := [.ref a11]) (pc' := 71) rfl ?_
    refine Goes.callV X 0 0 [0, 1] [2, 3] rfl (D_c1 l Z a0 h0 hw a11 k8 (0 + 1)) (wd hw 33 rfl) (wd hw 34 rfl) (wd hw 36 rfl) (wd hw 35 rfl) (own_nf X (wd hw 36 rfl)) (wd hw 28 rfl) (wd hw 37 rfl) pd_y_3 rfl (st := []) rfl rfl (G := [(k10, o_Lock .null .null .null .null .null .null .null .null .null), (k9, o_Lock .null .null .null .null .null .null .null .null .null)]) rfl rfl ?_
    rintro _ _ ⟨rfl, rfl⟩
    refine Goes.runS X [(.aload 5, 2)] (S' := [.ref a11]) (pc' := 76) rfl ?_
    refine Goes.callV X 0 0 [0] [1, 2, 3] rfl (D_size l Z a0 h0 hw a11) (wd hw 44 rfl) (wd hw 45 rfl) (wd hw 47 rfl) (wd hw 46 rfl) (own_nf X (wd hw 47 rfl)) (wd hw 28 rfl) (wd hw 48 rfl) pd_y_4 rfl (st := []) rfl rfl (G := [(k8, o_Lock .null .null .null .null .null .null .null .null .null), (k10, o_Lock .null .null .null .null .null .null .null .null .null), (k9, o_Lock .null .null .null .null .null .null .null .null .null)]) rfl rfl ?_
    rintro _ _ ⟨rfl, rfl⟩
    refine Goes.if1 X (pc' := 107) (o := 28) (cd := .ne) (fun q => absurd q (by decide)) (fun _ => ?_)
    refine Goes.runS X [(.aload 5, 2)] (S' := [.ref a11]) (pc' := 84) rfl ?_
    refine Goes.callV X 0 0 [0] [1, 2, 3] rfl (D_last l Z a0 h0 hw a11) (wd hw 49 rfl) (wd hw 50 rfl) (wd hw 52 rfl) (wd hw 51 rfl) (own_nf X (wd hw 52 rfl)) (wd hw 28 rfl) (wd hw 53 rfl) pd_y_5 rfl (st := []) rfl rfl (G := [(k8, o_Lock .null .null .null .null .null .null .null .null .null), (k10, o_Lock .null .null .null .null .null .null .null .null .null), (k9, o_Lock .null .null .null .null .null .null .null .null .null)]) rfl rfl ?_
    rintro _ _ ⟨rfl, rfl⟩
    refine Goes.nonN X (o := 20) ?_
    refine Goes.runS X [(.aload 5, 2)] (S' := [.ref a11]) (pc' := 92) rfl ?_
    refine Goes.callV X 0 0 [0] [1, 2, 3] rfl (D_iter l Z a0 h0 hw a11) (wd hw 54 rfl) (wd hw 55 rfl) (wd hw 57 rfl) (wd hw 56 rfl) (own_nf X (wd hw 57 rfl)) (wd hw 28 rfl) (wd hw 58 rfl) pd_y_6 rfl (st := []) rfl rfl (G := [(k8, o_Lock .null .null .null .null .null .null .null .null .null), (k10, o_Lock .null .null .null .null .null .null .null .null .null), (k9, o_Lock .null .null .null .null .null .null .null .null .null)]) rfl rfl ?_
    rintro _ _ ⟨i12, rfl, rfl⟩
    refine Goes.callI X (count := 1) 0 0 [0] [1, 2, 3, 4] rfl (D_hasN l Z a0 h0 hw i12 (.ref a11)) (wd hw 71 rfl) (wd hw 72 rfl) (wd hw 73 rfl) (wd hw 74 rfl) (wd hw 75 rfl) (wd hw 76 rfl) (wd hw 77 rfl) (wd hw 78 rfl) (wd hw 61 rfl) (wd hw 79 rfl) pd_y_12 rfl (st := []) rfl rfl (G := [(a11, o_LL .null .null (.int 0)), (k8, o_Lock .null .null .null .null .null .null .null .null .null), (k10, o_Lock .null .null .null .null .null .null .null .null .null), (k9, o_Lock .null .null .null .null .null .null .null .null .null)]) rfl rfl ?_
    rintro _ _ ⟨rfl, rfl⟩
    refine Goes.if1 X (pc' := 107) (o := 7) (cd := .ne) (fun q => absurd q (by decide)) (fun _ => ?_)
    refine Goes.runS X [(.iconst 1, 1)] (S' := [.int (1 : Int32)]) (pc' := 104) rfl ?_
    refine Goes.goto X (o := 4) (pc' := 108) ?_
    refine Goes.run X [(.istore 6, 2), (.aload_n 2, 1)] (L' := #[.val (.int n), .val (.int (1 : Int32)), .val (.ref k8), .val (.ref k9), .val (.ref k10), .val (.ref a11), .val (.int (1 : Int32)), .unset]) (S' := [.ref k8]) (pc' := 111) rfl ?_
    refine Goes.getF X 2 7 rfl rfl (wd hw 80 rfl) Via.refl ?_
    refine Goes.nonN X (o := 44) ?_
    refine Goes.runS X [(.aload_n 2, 1)] (S' := [.ref k8]) (pc' := 118) rfl ?_
    refine Goes.getF X 2 8 rfl rfl (wd hw 82 rfl) Via.refl ?_
    refine Goes.nonN X (o := 37) ?_
    refine Goes.runS X [(.aload_n 3, 1)] (S' := [.ref k9]) (pc' := 125) rfl ?_
    refine Goes.getF X 4 7 rfl rfl (wd hw 80 rfl) Via.refl ?_
    refine Goes.nonN X (o := 30) ?_
    refine Goes.runS X [(.aload_n 3, 1)] (S' := [.ref k9]) (pc' := 132) rfl ?_
    refine Goes.getF X 4 8 rfl rfl (wd hw 82 rfl) Via.refl ?_
    refine Goes.nonN X (o := 23) ?_
    refine Goes.runS X [(.aload 4, 2)] (S' := [.ref k10]) (pc' := 140) rfl ?_
    refine Goes.getF X 3 7 rfl rfl (wd hw 80 rfl) Via.refl ?_
    refine Goes.nonN X (o := 15) ?_
    refine Goes.runS X [(.aload 4, 2)] (S' := [.ref k10]) (pc' := 148) rfl ?_
    refine Goes.getF X 3 8 rfl rfl (wd hw 82 rfl) Via.refl ?_
    refine Goes.nonN X (o := 7) ?_
    refine Goes.runS X [(.iconst 1, 1)] (S' := [.int (1 : Int32)]) (pc' := 155) rfl ?_
    refine Goes.goto X (o := 4) (pc' := 159) ?_
    refine Goes.run X [(.istore 7, 2), (.iload 6, 2)] (L' := #[.val (.int n), .val (.int (1 : Int32)), .val (.ref k8), .val (.ref k9), .val (.ref k10), .val (.ref a11), .val (.int (1 : Int32)), .val (.int (1 : Int32))]) (S' := [.int (1 : Int32)]) (pc' := 163) rfl ?_
    refine Goes.if1 X (pc' := 175) (o := 12) (cd := .eq) (fun q => absurd q (by decide)) (fun _ => ?_)
    refine Goes.runS X [(.iload 7, 2)] (S' := [.int (1 : Int32)]) (pc' := 168) rfl ?_
    refine Goes.if1 X (pc' := 175) (o := 7) (cd := .eq) (fun q => absurd q (by decide)) (fun _ => ?_)
    refine Goes.runS X [(.iconst 1, 1)] (S' := [.int (1 : Int32)]) (pc' := 172) rfl ?_
    refine Goes.goto X (o := 4) (pc' := 176) ?_
    refine Goes.retI X (by simp) rfl ?_
    exact rfl
  · refine Goes.run X [(.iload_n 0, 1), (.iconst 3, 1), (.iand, 1), (.istore_n 1, 1)] (L' := #[.val (.int n), .val (.int (n &&& (3 : Int32))), .unset, .unset, .unset, .unset, .unset, .unset]) (S' := []) (pc' := 4) rfl ?_
    rw [e2]
    show Goes _ _ _ _ _ _ _ _ _ _ _ _ _ _ _ _ _ _ [] 0 0 (mkF m 4 #[.val (.int n), .val (.int (2 : Int32)), .unset, .unset, .unset, .unset, .unset, .unset] [])
    refine Goes.runS X [(.aconst_null, 1), (.aconst_null, 1), (.aconst_null, 1)] (S' := [.null, .null, .null]) (pc' := 7) rfl ?_
    refine Goes.callS X 0 [] [] (D_onT l Z a0 h0 hw ) (wd hw 0 rfl) (wd hw 1 rfl) (wd hw 2 rfl) (wd hw 3 rfl) pd_y_0 rfl (st := []) rfl rfl (G := []) rfl rfl ?_
    rintro _ _ ⟨k13, rfl, rfl⟩
    refine Goes.run X [(.astore_n 2, 1), (.aconst_null, 1), (.aconst_null, 1), (.aconst_null, 1)] (L' := #[.val (.int n), .val (.int (2 : Int32)), .val (.ref k13), .unset, .unset, .unset, .unset, .unset]) (S' := [.null, .null, .null]) (pc' := 14) rfl ?_
    refine Goes.callS X 0 [] [0] (D_onT l Z a0 h0 hw ) (wd hw 0 rfl) (wd hw 1 rfl) (wd hw 2 rfl) (wd hw 3 rfl) pd_y_0 rfl (st := []) rfl rfl (G := [(k13, o_Lock .null .null .null .null .null .null .null .null .null)]) rfl rfl ?_
    rintro _ _ ⟨k14, rfl, rfl⟩
    refine Goes.run X [(.astore_n 3, 1), (.aconst_null, 1), (.aconst_null, 1), (.aconst_null, 1)] (L' := #[.val (.int n), .val (.int (2 : Int32)), .val (.ref k13), .val (.ref k14), .unset, .unset, .unset, .unset]) (S' := [.null, .null, .null]) (pc' := 21) rfl ?_
    refine Goes.callS X 0 [] [0, 1] (D_onT l Z a0 h0 hw ) (wd hw 0 rfl) (wd hw 1 rfl) (wd hw 2 rfl) (wd hw 3 rfl) pd_y_0 rfl (st := []) rfl rfl (G := [(k14, o_Lock .null .null .null .null .null .null .null .null .null), (k13, o_Lock .null .null .null .null .null .null .null .null .null)]) rfl rfl ?_
    rintro _ _ ⟨k15, rfl, rfl⟩
    refine Goes.run X [(.astore 4, 2)] (L' := #[.val (.int n), .val (.int (2 : Int32)), .val (.ref k13), .val (.ref k14), .val (.ref k15), .unset, .unset, .unset]) (S' := []) (pc' := 26) rfl ?_
    refine Goes.new X _ (wd hw 26 rfl) (wd hw 27 rfl) (wd hw 28 rfl) (new_LL hw) (fun a16 => ?_)
    refine Goes.runS X [(.dup, 1)] (S' := [.ref a16, .ref a16]) (pc' := 30) rfl ?_
    refine Goes.callN X 1 [3] [0, 1, 2] (D_lctor l Z a0 h0 hw a16) rfl (wd hw 29 rfl) (wd hw 30 rfl) (wd hw 28 rfl) (wd hw 31 rfl) pd_y_2 rfl (st := [.ref a16]) rfl rfl (G := [(k15, o_Lock .null .null .null .null .null .null .null .null .null), (k14, o_Lock .null .null .null .null .null .null .null .null .null), (k13, o_Lock .null .null .null .null .null .null .null .null .null)]) rfl rfl ?_
    rintro _ _ ⟨rfl, rfl⟩
    refine Goes.run X [(.astore 5, 2), (.iload_n 1, 1), (.iconst 1, 1)] (L' := #[.val (.int n), .val (.int (2 : Int32)), .val (.ref k13), .val (.ref k14), .val (.ref k15), .val (.ref a16), .unset, .unset]) (S' := [.int (1 : Int32), .int (2 : Int32)]) (pc' := 37) rfl ?_
    refine Goes.if2 X (pc' := 46) (o := 9) (cd := .lt) (fun q => absurd q (by decide)) (fun _ => ?_)
    refine Goes.runS X [(.aload 5, 2), (.aload_n 2, 1)] (S' := [.ref k13, .ref a16]) (pc' := 43) rfl ?_
    refine Goes.callV X 0 0 [0, 3] [1, 2] rfl (D_a0 l Z a0 h0 hw a16 k13 .null .null .null 0) (wd hw 84 rfl) (wd hw 85 rfl) (wd hw 87 rfl) (wd hw 86 rfl) (own_nf X (wd hw 87 rfl)) (wd hw 28 rfl) (wd hw 88 rfl) pd_y_9 rfl (st := []) rfl rfl (G := [(k15, o_Lock .null .null .null .null .null .null .null .null .null), (k14, o_Lock .null .null .null .null .null .null .null .null .null)]) rfl rfl ?_
    rintro _ _ ⟨rfl, rfl⟩
    refine Goes.runS X [(.iload_n 1, 1), (.iconst 2, 1)] (S' := [.int (2 : Int32), .int (2 : Int32)]) (pc' := 48) rfl ?_
    refine Goes.if2 X (pc' := 57) (o := 9) (cd := .lt) (fun q => absurd q (by decide)) (fun _ => ?_)
    refine Goes.runS X [(.aload 5, 2), (.aload_n 3, 1)] (S' := [.ref k14, .ref a16]) (pc' := 54) rfl ?_
    refine Goes.callV X 0 0 [0, 1, 3] [2] rfl (D_a1 l Z a0 h0 hw a16 k13 k14 (.ref k13) .null .null .null .null (0 + 1)) (wd hw 84 rfl) (wd hw 85 rfl) (wd hw 87 rfl) (wd hw 86 rfl) (own_nf X (wd hw 87 rfl)) (wd hw 28 rfl) (wd hw 88 rfl) pd_y_9 rfl (st := []) rfl rfl (G := [(k15, o_Lock .null .null .null .null .null .null .null .null .null)]) rfl rfl ?_
    rintro _ _ ⟨rfl, rfl⟩
    refine Goes.runS X [(.iload_n 1, 1), (.iconst 3, 1)] (S' := [.int (3 : Int32), .int (2 : Int32)]) (pc' := 59) rfl ?_
    refine Goes.if2 X (pc' := 69) (o := 10) (cd := .lt) (fun _ => ?_) (fun q => absurd q (by decide))
    refine Goes.runS X [(.aload 5, 2)] (S' := [.ref a16]) (pc' := 71) rfl ?_
    refine Goes.callV X 0 0 [0, 1, 2] [3] rfl (D_c2 l Z a0 h0 hw a16 k13 k14 (0 + 1 + 1)) (wd hw 33 rfl) (wd hw 34 rfl) (wd hw 36 rfl) (wd hw 35 rfl) (own_nf X (wd hw 36 rfl)) (wd hw 28 rfl) (wd hw 37 rfl) pd_y_3 rfl (st := []) rfl rfl (G := [(k15, o_Lock .null .null .null .null .null .null .null .null .null)]) rfl rfl ?_
    rintro _ _ ⟨rfl, rfl⟩
    refine Goes.runS X [(.aload 5, 2)] (S' := [.ref a16]) (pc' := 76) rfl ?_
    refine Goes.callV X 0 0 [0] [1, 2, 3] rfl (D_size l Z a0 h0 hw a16) (wd hw 44 rfl) (wd hw 45 rfl) (wd hw 47 rfl) (wd hw 46 rfl) (own_nf X (wd hw 47 rfl)) (wd hw 28 rfl) (wd hw 48 rfl) pd_y_4 rfl (st := []) rfl rfl (G := [(k13, o_Lock .null .null .null .null .null .null .null .null .null), (k14, o_Lock .null .null .null .null .null .null .null .null .null), (k15, o_Lock .null .null .null .null .null .null .null .null .null)]) rfl rfl ?_
    rintro _ _ ⟨rfl, rfl⟩
    refine Goes.if1 X (pc' := 107) (o := 28) (cd := .ne) (fun q => absurd q (by decide)) (fun _ => ?_)
    refine Goes.runS X [(.aload 5, 2)] (S' := [.ref a16]) (pc' := 84) rfl ?_
    refine Goes.callV X 0 0 [0] [1, 2, 3] rfl (D_last l Z a0 h0 hw a16) (wd hw 49 rfl) (wd hw 50 rfl) (wd hw 52 rfl) (wd hw 51 rfl) (own_nf X (wd hw 52 rfl)) (wd hw 28 rfl) (wd hw 53 rfl) pd_y_5 rfl (st := []) rfl rfl (G := [(k13, o_Lock .null .null .null .null .null .null .null .null .null), (k14, o_Lock .null .null .null .null .null .null .null .null .null), (k15, o_Lock .null .null .null .null .null .null .null .null .null)]) rfl rfl ?_
    rintro _ _ ⟨rfl, rfl⟩
    refine Goes.nonN X (o := 20) ?_
    refine Goes.runS X [(.aload 5, 2)] (S' := [.ref a16]) (pc' := 92) rfl ?_
    refine Goes.callV X 0 0 [0] [1, 2, 3] rfl (D_iter l Z a0 h0 hw a16) (wd hw 54 rfl) (wd hw 55 rfl) (wd hw 57 rfl) (wd hw 56 rfl) (own_nf X (wd hw 57 rfl)) (wd hw 28 rfl) (wd hw 58 rfl) pd_y_6 rfl (st := []) rfl rfl (G := [(k13, o_Lock .null .null .null .null .null .null .null .null .null), (k14, o_Lock .null .null .null .null .null .null .null .null .null), (k15, o_Lock .null .null .null .null .null .null .null .null .null)]) rfl rfl ?_
    rintro _ _ ⟨i17, rfl, rfl⟩
    refine Goes.callI X (count := 1) 0 0 [0] [1, 2, 3, 4] rfl (D_hasN l Z a0 h0 hw i17 (.ref a16)) (wd hw 71 rfl) (wd hw 72 rfl) (wd hw 73 rfl) (wd hw 74 rfl) (wd hw 75 rfl) (wd hw 76 rfl) (wd hw 77 rfl) (wd hw 78 rfl) (wd hw 61 rfl) (wd hw 79 rfl) pd_y_12 rfl (st := []) rfl rfl (G := [(a16, o_LL .null .null (.int 0)), (k13, o_Lock .null .null .null .null .null .null .null .null .null), (k14, o_Lock .null .null .null .null .null .null .null .null .null), (k15, o_Lock .null .null .null .null .null .null .null .null .null)]) rfl rfl ?_
    rintro _ _ ⟨rfl, rfl⟩
    refine Goes.if1 X (pc' := 107) (o := 7) (cd := .ne) (fun q => absurd q (by decide)) (fun _ => ?_)
    refine Goes.runS X [(.iconst 1, 1)] (S' := [.int (1 : Int32)]) (pc' := 104) rfl ?_
    refine Goes.goto X (o := 4) (pc' := 108) ?_
    refine Goes.run X [(.istore 6, 2), (.aload_n 2, 1)] (L' := #[.val (.int n), .val (.int (2 : Int32)), .val (.ref k13), .val (.ref k14), .val (.ref k15), .val (.ref a16), .val (.int (1 : Int32)), .unset]) (S' := [.ref k13]) (pc' := 111) rfl ?_
    refine Goes.getF X 2 7 rfl rfl (wd hw 80 rfl) Via.refl ?_
    refine Goes.nonN X (o := 44) ?_
    refine Goes.runS X [(.aload_n 2, 1)] (S' := [.ref k13]) (pc' := 118) rfl ?_
    refine Goes.getF X 2 8 rfl rfl (wd hw 82 rfl) Via.refl ?_
    refine Goes.nonN X (o := 37) ?_
    refine Goes.runS X [(.aload_n 3, 1)] (S' := [.ref k14]) (pc' := 125) rfl ?_
    refine Goes.getF X 3 7 rfl rfl (wd hw 80 rfl) Via.refl ?_
    refine Goes.nonN X (o := 30) ?_
    refine Goes.runS X [(.aload_n 3, 1)] (S' := [.ref k14]) (pc' := 132) rfl ?_
    refine Goes.getF X 3 8 rfl rfl (wd hw 82 rfl) Via.refl ?_
    refine Goes.nonN X (o := 23) ?_
    refine Goes.runS X [(.aload 4, 2)] (S' := [.ref k15]) (pc' := 140) rfl ?_
    refine Goes.getF X 4 7 rfl rfl (wd hw 80 rfl) Via.refl ?_
    refine Goes.nonN X (o := 15) ?_
    refine Goes.runS X [(.aload 4, 2)] (S' := [.ref k15]) (pc' := 148) rfl ?_
    refine Goes.getF X 4 8 rfl rfl (wd hw 82 rfl) Via.refl ?_
    refine Goes.nonN X (o := 7) ?_
    refine Goes.runS X [(.iconst 1, 1)] (S' := [.int (1 : Int32)]) (pc' := 155) rfl ?_
    refine Goes.goto X (o := 4) (pc' := 159) ?_
    refine Goes.run X [(.istore 7, 2), (.iload 6, 2)] (L' := #[.val (.int n), .val (.int (2 : Int32)), .val (.ref k13), .val (.ref k14), .val (.ref k15), .val (.ref a16), .val (.int (1 : Int32)), .val (.int (1 : Int32))]) (S' := [.int (1 : Int32)]) (pc' := 163) rfl ?_
    refine Goes.if1 X (pc' := 175) (o := 12) (cd := .eq) (fun q => absurd q (by decide)) (fun _ => ?_)
    refine Goes.runS X [(.iload 7, 2)] (S' := [.int (1 : Int32)]) (pc' := 168) rfl ?_
    refine Goes.if1 X (pc' := 175) (o := 7) (cd := .eq) (fun q => absurd q (by decide)) (fun _ => ?_)
    refine Goes.runS X [(.iconst 1, 1)] (S' := [.int (1 : Int32)]) (pc' := 172) rfl ?_
    refine Goes.goto X (o := 4) (pc' := 176) ?_
    refine Goes.retI X (by simp) rfl ?_
    exact rfl
  · refine Goes.run X [(.iload_n 0, 1), (.iconst 3, 1), (.iand, 1), (.istore_n 1, 1)] (L' := #[.val (.int n), .val (.int (n &&& (3 : Int32))), .unset, .unset, .unset, .unset, .unset, .unset]) (S' := []) (pc' := 4) rfl ?_
    rw [e3]
    show Goes _ _ _ _ _ _ _ _ _ _ _ _ _ _ _ _ _ _ [] 0 0 (mkF m 4 #[.val (.int n), .val (.int (3 : Int32)), .unset, .unset, .unset, .unset, .unset, .unset] [])
    refine Goes.runS X [(.aconst_null, 1), (.aconst_null, 1), (.aconst_null, 1)] (S' := [.null, .null, .null]) (pc' := 7) rfl ?_
    refine Goes.callS X 0 [] [] (D_onT l Z a0 h0 hw ) (wd hw 0 rfl) (wd hw 1 rfl) (wd hw 2 rfl) (wd hw 3 rfl) pd_y_0 rfl (st := []) rfl rfl (G := []) rfl rfl ?_
    rintro _ _ ⟨k18, rfl, rfl⟩
    refine Goes.run X [(.astore_n 2, 1), (.aconst_null, 1), (.aconst_null, 1), (.aconst_null, 1)] (L' := #[.val (.int n), .val (.int (3 : Int32)), .val (.ref k18), .unset, .unset, .unset, .unset, .unset]) (S' := [.null, .null, .null]) (pc' := 14) rfl ?_
    refine Goes.callS X 0 [] [0] (D_onT l Z a0 h0 hw ) (wd hw 0 rfl) (wd hw 1 rfl) (wd hw 2 rfl) (wd hw 3 rfl) pd_y_0 rfl (st := []) rfl rfl (G := [(k18, o_Lock .null .null .null .null .null .null .null .null .null)]) rfl rfl ?_
    rintro _ _ ⟨k19, rfl, rfl⟩
    refine Goes.run X [(.astore_n 3, 1), (.aconst_null, 1), (.aconst_null, 1), (.aconst_null, 1)] (L' := #[.val (.int n), .val (.int (3 : Int32)), .val (.ref k18), .val (.ref k19), .unset, .unset, .unset, .unset]) (S' := [.null, .null, .null]) (pc' := 21) rfl ?_
    refine Goes.callS X 0 [] [0, 1] (D_onT l Z a0 h0 hw ) (wd hw 0 rfl) (wd hw 1 rfl) (wd hw 2 rfl) (wd hw 3 rfl) pd_y_0 rfl (st := []) rfl rfl (G := [(k19, o_Lock .null .null .null .null .null .null .null .null .null), (k18, o_Lock .null .null .null .null .null .null .null .null .null)]) rfl rfl ?_
    rintro _ _ ⟨k20, rfl, rfl⟩
    refine Goes.run X [(.astore 4, 2)] (L' := #[.val (.int n), .val (.int (3 : Int32)), .val (.ref k18), .val (.ref k19), .val (.ref k20), .unset, .unset, .unset]) (S' := []) (pc' := 26) rfl ?_
    refine Goes.new X _ (wd hw 26 rfl) (wd hw 27 rfl) (wd hw 28 rfl) (new_LL hw) (fun a21 => ?_)
    refine Goes.runS X [(.dup, 1)] (S' := [.ref a21, .ref a21]) (pc' := 30) rfl ?_
    refine Goes.callN X 1 [3] [0, 1, 2] (D_lctor l Z a0 h0 hw a21) rfl (wd hw 29 rfl) (wd hw 30 rfl) (wd hw 28 rfl) (wd hw 31 rfl) pd_y_2 rfl (st := [.ref a21]) rfl rfl (G := [(k20, o_Lock .null .null .null .null .null .null .null .null .null), (k19, o_Lock .null .null .null .null .null .null .null .null .null), (k18, o_Lock .null .null .null .null .null .null .null .null .null)]) rfl rfl ?_
    rintro _ _ ⟨rfl, rfl⟩
    refine Goes.run X [(.astore 5, 2), (.iload_n 1, 1), (.iconst 1, 1)] (L' := #[.val (.int n), .val (.int (3 : Int32)), .val (.ref k18), .val (.ref k19), .val (.ref k20), .val (.ref a21), .unset, .unset]) (S' := [.int (1 : Int32), .int (3 : Int32)]) (pc' := 37) rfl ?_
    refine Goes.if2 X (pc' := 46) (o := 9) (cd := .lt) (fun q => absurd q (by decide)) (fun _ => ?_)
    refine Goes.runS X [(.aload 5, 2), (.aload_n 2, 1)] (S' := [.ref k18, .ref a21]) (pc' := 43) rfl ?_
    refine Goes.callV X 0 0 [0, 3] [1, 2] rfl (D_a0 l Z a0 h0 hw a21 k18 .null .null .null 0) (wd hw 84 rfl) (wd hw 85 rfl) (wd hw 87 rfl) (wd hw 86 rfl) (own_nf X (wd hw 87 rfl)) (wd hw 28 rfl) (wd hw 88 rfl) pd_y_9 rfl (st := []) rfl rfl (G := [(k20, o_Lock .null .null .null .null .null .null .null .null .null), (k19, o_Lock .null .null .null .null .null .null .null .null .null)]) rfl rfl ?_
    rintro _ _ ⟨rfl, rfl⟩
    refine Goes.runS X [(.iload_n 1, 1), (.iconst 2, 1)] (S' := [.int (2 : Int32), .int (3 : Int32)]) (pc' := 48) rfl ?_
    refine Goes.if2 X (pc' := 57) (o := 9) (cd := .lt) (fun q => absurd q (by decide)) (fun _ => ?_)
    refine Goes.runS X [(.aload 5, 2), (.aload_n 3, 1)] (S' := [.ref k19, .ref a21]) (pc' := 54) rfl ?_
    refine Goes.callV X 0 0 [0, 1, 3] [2] rfl (D_a1 l Z a0 h0 hw a21 k18 k19 (.ref k18) .null .null .null .null (0 + 1)) (wd hw 84 rfl) (wd hw 85 rfl) (wd hw 87 rfl) (wd hw 86 rfl) (own_nf X (wd hw 87 rfl)) (wd hw 28 rfl) (wd hw 88 rfl) pd_y_9 rfl (st := []) rfl rfl (G := [(k20, o_Lock .null .null .null .null .null .null .null .null .null)]) rfl rfl ?_
    rintro _ _ ⟨rfl, rfl⟩
    refine Goes.runS X [(.iload_n 1, 1), (.iconst 3, 1)] (S' := [.int (3 : Int32), .int (3 : Int32)]) (pc' := 59) rfl ?_
    refine Goes.if2 X (pc' := 69) (o := 10) (cd := .lt) (fun q => absurd q (by decide)) (fun _ => ?_)
    refine Goes.runS X [(.aload 5, 2), (.aload 4, 2)] (S' := [.ref k20, .ref a21]) (pc' := 66) rfl ?_
    refine Goes.callV X 0 0 [0, 2, 3] [1] rfl (D_a1 l Z a0 h0 hw a21 k19 k20 (.ref k18) (.ref k18) .null .null .null (0 + 1 + 1)) (wd hw 84 rfl) (wd hw 85 rfl) (wd hw 87 rfl) (wd hw 86 rfl) (own_nf X (wd hw 87 rfl)) (wd hw 28 rfl) (wd hw 88 rfl) pd_y_9 rfl (st := []) rfl rfl (G := [(k18, o_Lock .null .null .null .null .null .null .null .null (.ref k19))]) rfl rfl ?_
    rintro _ _ ⟨rfl, rfl⟩
    refine Goes.runS X [(.aload 5, 2)] (S' := [.ref a21]) (pc' := 71) rfl ?_
    refine Goes.callV X 0 0 [0, 3, 1, 2] [] rfl (D_c3 l Z a0 h0 hw a21 k18 k19 k20 (0 + 1 + 1 + 1)) (wd hw 33 rfl) (wd hw 34 rfl) (wd hw 36 rfl) (wd hw 35 rfl) (own_nf X (wd hw 36 rfl)) (wd hw 28 rfl) (wd hw 37 rfl) pd_y_3 rfl (st := []) rfl rfl (G := []) rfl rfl ?_
    rintro _ _ ⟨rfl, rfl⟩
    refine Goes.runS X [(.aload 5, 2)] (S' := [.ref a21]) (pc' := 76) rfl ?_
    refine Goes.callV X 0 0 [0] [1, 2, 3] rfl (D_size l Z a0 h0 hw a21) (wd hw 44 rfl) (wd hw 45 rfl) (wd hw 47 rfl) (wd hw 46 rfl) (own_nf X (wd hw 47 rfl)) (wd hw 28 rfl) (wd hw 48 rfl) pd_y_4 rfl (st := []) rfl rfl (G := [(k18, o_Lock .null .null .null .null .null .null .null .null .null), (k19, o_Lock .null .null .null .null .null .null .null .null .null), (k20, o_Lock .null .null .null .null .null .null .null .null .null)]) rfl rfl ?_
    rintro _ _ ⟨rfl, rfl⟩
    refine Goes.if1 X (pc' := 107) (o := 28) (cd := .ne) (fun q => absurd q (by decide)) (fun _ => ?_)
    refine Goes.runS X [(.aload 5, 2)] (S' := [.ref a21]) (pc' := 84) rfl ?_
    refine Goes.callV X 0 0 [0] [1, 2, 3] rfl (D_last l Z a0 h0 hw a21) (wd hw 49 rfl) (wd hw 50 rfl) (wd hw 52 rfl) (wd hw 51 rfl) (own_nf X (wd hw 52 rfl)) (wd hw 28 rfl) (wd hw 53 rfl) pd_y_5 rfl (st := []) rfl rfl (G := [(k18, o_Lock .null .null .null .null .null .null .null .null .null), (k19, o_Lock .null .null .null .null .null .null .null .null .null), (k20, o_Lock .null .null .null .null .null .null .null .null .null)]) rfl rfl ?_
    rintro _ _ ⟨rfl, rfl⟩
    refine Goes.nonN X (o := 20) ?_
    refine Goes.runS X [(.aload 5, 2)] (S' := [.ref a21]) (pc' := 92) rfl ?_
    refine Goes.callV X 0 0 [0] [1, 2, 3] rfl (D_iter l Z a0 h0 hw a21) (wd hw 54 rfl) (wd hw 55 rfl) (wd hw 57 rfl) (wd hw 56 rfl) (own_nf X (wd hw 57 rfl)) (wd hw 28 rfl) (wd hw 58 rfl) pd_y_6 rfl (st := []) rfl rfl (G := [(k18, o_Lock .null .null .null .null .null .null .null .null .null), (k19, o_Lock .null .null .null .null .null .null .null .null .null), (k20, o_Lock .null .null .null .null .null .null .null .null .null)]) rfl rfl ?_
    rintro _ _ ⟨i22, rfl, rfl⟩
    refine Goes.callI X (count := 1) 0 0 [0] [1, 2, 3, 4] rfl (D_hasN l Z a0 h0 hw i22 (.ref a21)) (wd hw 71 rfl) (wd hw 72 rfl) (wd hw 73 rfl) (wd hw 74 rfl) (wd hw 75 rfl) (wd hw 76 rfl) (wd hw 77 rfl) (wd hw 78 rfl) (wd hw 61 rfl) (wd hw 79 rfl) pd_y_12 rfl (st := []) rfl rfl (G := [(a21, o_LL .null .null (.int 0)), (k18, o_Lock .null .null .null .null .null .null .null .null .null), (k19, o_Lock .null .null .null .null .null .null .null .null .null), (k20, o_Lock .null .null .null .null .null .null .null .null .null)]) rfl rfl ?_
    rintro _ _ ⟨rfl, rfl⟩
    refine Goes.if1 X (pc' := 107) (o := 7) (cd := .ne) (fun q => absurd q (by decide)) (fun _ => ?_)
    refine Goes.runS X [(.iconst 1, 1)] (S' := [.int (1 : Int32)]) (pc' := 104) rfl ?_
    refine Goes.goto X (o := 4) (pc' := 108) ?_
    refine Goes.run X [(.istore 6, 2), (.aload_n 2, 1)] (L' := #[.val (.int n), .val (.int (3 : Int32)), .val (.ref k18), .val (.ref k19), .val (.ref k20), .val (.ref a21), .val (.int (1 : Int32)), .unset]) (S' := [.ref k18]) (pc' := 111) rfl ?_
    refine Goes.getF X 2 7 rfl rfl (wd hw 80 rfl) Via.refl ?_
    refine Goes.nonN X (o := 44) ?_
    refine Goes.runS X [(.aload_n 2, 1)] (S' := [.ref k18]) (pc' := 118) rfl ?_
    refine Goes.getF X 2 8 rfl rfl (wd hw 82 rfl) Via.refl ?_
    refine Goes.nonN X (o := 37) ?_
    refine Goes.runS X [(.aload_n 3, 1)] (S' := [.ref k19]) (pc' := 125) rfl ?_
    refine Goes.getF X 3 7 rfl rfl (wd hw 80 rfl) Via.refl ?_
    refine Goes.nonN X (o := 30) ?_
    refine Goes.runS X [(.aload_n 3, 1)] (S' := [.ref k19]) (pc' := 132) rfl ?_
    refine Goes.getF X 3 8 rfl rfl (wd hw 82 rfl) Via.refl ?_
    refine Goes.nonN X (o := 23) ?_
    refine Goes.runS X [(.aload 4, 2)] (S' := [.ref k20]) (pc' := 140) rfl ?_
    refine Goes.getF X 4 7 rfl rfl (wd hw 80 rfl) Via.refl ?_
    refine Goes.nonN X (o := 15) ?_
    refine Goes.runS X [(.aload 4, 2)] (S' := [.ref k20]) (pc' := 148) rfl ?_
    refine Goes.getF X 4 8 rfl rfl (wd hw 82 rfl) Via.refl ?_
    refine Goes.nonN X (o := 7) ?_
    refine Goes.runS X [(.iconst 1, 1)] (S' := [.int (1 : Int32)]) (pc' := 155) rfl ?_
    refine Goes.goto X (o := 4) (pc' := 159) ?_
    refine Goes.run X [(.istore 7, 2), (.iload 6, 2)] (L' := #[.val (.int n), .val (.int (3 : Int32)), .val (.ref k18), .val (.ref k19), .val (.ref k20), .val (.ref a21), .val (.int (1 : Int32)), .val (.int (1 : Int32))]) (S' := [.int (1 : Int32)]) (pc' := 163) rfl ?_
    refine Goes.if1 X (pc' := 175) (o := 12) (cd := .eq) (fun q => absurd q (by decide)) (fun _ => ?_)
    refine Goes.runS X [(.iload 7, 2)] (S' := [.int (1 : Int32)]) (pc' := 168) rfl ?_
    refine Goes.if1 X (pc' := 175) (o := 7) (cd := .eq) (fun q => absurd q (by decide)) (fun _ => ?_)
    refine Goes.runS X [(.iconst 1, 1)] (S' := [.int (1 : Int32)]) (pc' := 172) rfl ?_
    refine Goes.goto X (o := 4) (pc' := 176) ?_
    refine Goes.retI X (by simp) rfl ?_
    exact rfl
set_option maxRecDepth 65536 in
set_option maxHeartbeats 40000000 in
theorem comes_1 {Post : Tables → Env → Array Value → State → Outcome → State → Prop} (hpost : ∀ tb e args s v u, (limb_1_1.after args s (.returned v) u = true ∧ limb_1_2.after args s (.returned v) u = true ∧ True) → FrameEnd s (.returned v) u (Jvm.fieldLocs frame_1_writes args s ++ Jvm.arrayLocs frame_1_arrays args s ++ Jvm.staticLocs frame_1_statics s) 24 192 → Post tb e args s (.returned v) u) :
    ArmFor flags0 classFile x code maxLocals ret World_1 tables_1 room_1 Calls_1 rest_1 Pre_1 Post := by
  intro l hfl _ _ p e ha hc hk s m args below hf hA hF happ hP
  obtain ⟨hcalls, hrest, hpre⟩ := hP
  obtain ⟨-, -, -, hnamed, -, -, -, hat⟩ := (Spec.applies_iff hf).mp happ
  obtain ⟨hg, hn⟩ := and_e (Cond.before_iff.mp (show (Jvm.Cond.and given_1 narrow_1).before args s = true from hpre))
  obtain ⟨h1, h2⟩ := and_e hg
  obtain ⟨w0, rfl⟩ : ∃ w0 : Value, args = #[w0] := by
    have hs : args.size = 1 := by simpa [Cond.value, given_1] using h1
    obtain ⟨L⟩ := args
    match L, hs with
    | [w0], _ => exact ⟨w0, rfl⟩
  have hw := fun d (hd : d ∈ tables_1) => atoms_spec (ws := Jvm.Cond.code x code maxLocals ret :: tables_1) hat d (List.mem_cons_of_mem _ hd)
  have hfit : Fit s := fun {y c} hc i hi => by
    obtain ⟨ha, rfl⟩ := Array.getElem?_eq_some_iff.mp hc
    have q := List.all_eq_true.mp ((Array.all_eq_true_iff_forall_mem.mp hF) _ (Array.getElem_mem ha)) i (List.mem_range.mpr hi)
    simpa [Array.getElem?_eq_getElem hi] using q
  have k0 := h2
  obtain ⟨z0, ez0⟩ := is_v k0
  obtain rfl : w0 = (.int z0) := Option.some.inj ez0
  have D := D_law l s _ s.heap hw z0
  obtain ⟨n, o, g1, g2, g3, v, L, rfl, ⟨N, F', hQ, -⟩, hq⟩ := D tables_1 s.heap (Hp.start s _) p e ha hc hk s m _ below hf ((Spec.applies_iff_loose hf).mp happ).1 ⟨rfl, State.Warmed39.refl s, rfl⟩ trivial
  obtain rfl := hQ
  exact ⟨n, _, g1, g2, g3, hpost _ _ _ _ _ _ ⟨Cond.after_iff.mpr rfl, Cond.after_iff.mpr (eq_i res_at (Term.int_eval (1)) rfl), trivial⟩ ⟨hq.1, hq.2.1, (hq.2.2.sift fun y hy => Or.inr (N y hy)).mono (by decide) (by decide)⟩⟩
theorem main_1_1 : Claimed_1_1 := comes_1 fun _ _ _ _ _ _ h hF => ⟨h.1, hF⟩
theorem main_1_2 : Claimed_1_2 := comes_1 fun _ _ _ _ _ _ h hF => ⟨h.2.1, hF⟩
end Jvm.Pilot.@@N@@
namespace Jvm.Pilot.@@N@@
open Jvm Jvm.ClassFile Sem Op Lib Jvm.Free Jvm.Stand Jvm.Pilot.@@N@@.Jvm.D
/-! MADE BY PROGRAM (witnessworld.py) out of the Statement's table words and the real class files: 13 classes; the members and pool entries that the words name. The judged class is class 1, her method 1. -/
namespace start1
open Jvm.ClassFile
def u (s : String) : CpInfo := .utf8 (stringToUtf16 s)
/-- a pool by its gaps: so many unusable entries, then the entry; so many at the end -/
def gap : Nat → List CpInfo → List CpInfo
  | 0, r => r
  | n + 1, r => .unusable :: gap n r
def poolList (es : List (Nat × CpInfo)) (last : Nat) : List CpInfo := es.foldr (fun e r => gap e.1 (e.2 :: r)) (gap last [])
def pool (es : List (Nat × CpInfo)) (last : Nat) : Array CpInfo := ⟨poolList es last⟩
def fileOf (pool : Array CpInfo) (this : Nat) (attrs : Array Attribute := #[]) (ms : Array MethodInfo := #[]) (fl : Nat := 33) (sup : Nat := 0) (ifs : Array Nat := #[]) (fds : Array FieldInfo := #[]) : ClassFile where
  minorVersion := 0
  majorVersion := 65
  constantPool := pool
  accessFlags := fl
  thisClass := this
  superClass := sup
  interfaces := ifs
  fields := fds
  methods := ms
  attributes := attrs
def plain (name : String) (sup : Option ClassId) : Class where
  name := name
  kind := .ordinary
  loader := none
  accessFlags := 33
  super := sup
  interfaces := #[]
  cf := none
  fields := #[]
  methods := #[]
  instanceTypes := #[]
  staticTypes := #[]
  resolved := #[]
  callSites := []
  init := .initialized
  statics := none
  mirror := none

def pool0 : Array CpInfo := pool [(5, u "<init>"), (0, u "()V"), (1, .class_ 10), (1, u "java/lang/Object")] 113

def k0c0 : Code := { maxStack := 0, maxLocals := 1, code := object_method_1_code, exceptionTable := #[], attributes := #[] }
def k0m0 : Method := { name := "<init>", desc := "()V", sig := { parameters := [], returnType := none }, accessFlags := 1, code := some k0c0 }
/-- java/lang/Object -/
def k0 : Class := { plain "java/lang/Object" none with
  accessFlags := 33
  interfaces := #[]
  cf := some (fileOf pool0 8 #[] #[{ accessFlags := 1, nameIndex := 5, descriptorIndex := 6, attributes := #[] }] 33 0 #[] #[])
  fields := #[]
  methods := #[k0m0]
  instanceTypes := #[]
  staticTypes := #[]
  resolved := Array.replicate 124 none
  statics := none }

def pool1 : Array CpInfo := pool [(2, .class_ 4), (0, .nameAndType 5 6), (0, u "java/lang/Object"), (0, u "<init>"), (0, u "()V"), (0, .methodref 8 9), (0, .class_ 10), (0, .nameAndType 11 12), (0, u "com/example/gapkeeper/gapkeeper/engine/Lock"), (0, u "onTable"), (0, u "(Lcom/example/gapkeeper/gapkeeper/engine/Transaction;Lcom/example/gapkeeper/gapkeeper/engine/Table;Lcom/example/gapkeeper/gapkeeper/engine/Lock$Mode;)Lcom/example/gapkeeper/gapkeeper/engine/Lock;"), (0, .class_ 14), (0, u "com/example/gapkeeper/gapkeeper/engine/LockList"), (0, .methodref 13 3), (0, .methodref 13 17), (0, .nameAndType 18 19), (0, u "add"), (0, u "(Lcom/example/gapkeeper/gapkeeper/engine/Lock;)V"), (0, .methodref 13 21), (0, .nameAndType 22 6), (0, u "clear"), (0, .methodref 13 24), (0, .nameAndType 25 26), (0, u "size"), (0, u "()I"), (0, .methodref 13 28), (0, .nameAndType 29 30), (0, u "last"), (0, u "()Lcom/example/gapkeeper/gapkeeper/engine/Lock;"), (0, .methodref 13 32), (0, .nameAndType 33 34), (0, u "iterator"), (0, u "()Ljava/util/Iterator;"), (0, .interfaceMethodref 36 37), (0, .class_ 38), (0, .nameAndType 39 40), (0, u "java/util/Iterator"), (0, u "hasNext"), (0, u "()Z"), (0, .fieldref 8 42), (0, .nameAndType 43 44), (0, u "ownerPrevious"), (0, u "Lcom/example/gapkeeper/gapkeeper/engine/Lock;"), (0, .fieldref 8 46), (0, .nameAndType 47 44), (0, u "ownerNext"), (0, .class_ 49), (0, u "com/example/gapkeeper/gapkeeper/engine/LockListClearPinLaw"), (2, u "law"), (0, u "(I)Z")] 7

def k1m0 : Method := { name := "<init>", desc := "()V", sig := { parameters := [], returnType := none }, accessFlags := 1, code := none }
def k1c1 : Code := { maxStack := 3, maxLocals := 8, code := code, exceptionTable := #[], attributes := #[] }
def k1m1 : Method := { name := "law", desc := "(I)Z", sig := { parameters := [.int], returnType := some .boolean }, accessFlags := 9, code := some k1c1 }
/-- com/example/gapkeeper/gapkeeper/engine/LockListClearPinLaw -/
def k1 : Class := { plain "com/example/gapkeeper/gapkeeper/engine/LockListClearPinLaw" (some 0) with
  accessFlags := 49
  interfaces := #[]
  cf := some (fileOf pool1 48 #[] #[{ accessFlags := 1, nameIndex := 5, descriptorIndex := 6, attributes := #[] }, { accessFlags := 9, nameIndex := 52, descriptorIndex := 53, attributes := #[] }] 49 2 #[] #[])
  fields := #[]
  methods := #[k1m0, k1m1]
  instanceTypes := #[]
  staticTypes := #[]
  resolved := Array.replicate 61 none
  statics := none }

def pool2 : Array CpInfo := pool [(1, .methodref 2 3), (0, .class_ 4), (0, .nameAndType 5 6), (0, u "java/lang/Object"), (0, u "<init>"), (0, u "()V"), (0, .fieldref 8 9), (0, .class_ 10), (0, .nameAndType 11 12), (0, u "com/example/gapkeeper/gapkeeper/engine/Lock"), (0, u "owner"), (0, u "Lcom/example/gapkeeper/gapkeeper/engine/Transaction;"), (0, .fieldref 8 14), (0, .nameAndType 15 16), (0, u "table"), (0, u "Lcom/example/gapkeeper/gapkeeper/engine/Table;"), (0, .fieldref 8 18), (0, .nameAndType 19 20), (0, u "index"), (0, u "Lcom/example/gapkeeper/gapkeeper/engine/Index;"), (0, .fieldref 8 22), (0, .nameAndType 23 24), (0, u "entry"), (0, u "Lcom/example/gapkeeper/gapkeeper/engine/Key;"), (0, .fieldref 8 26), (0, .nameAndType 27 24), (0, u "last"), (0, .fieldref 8 29), (0, .nameAndType 30 31), (0, u "mode"), (0, u "Lcom/example/gapkeeper/gapkeeper/engine/Lock$Mode;"), (0, .fieldref 8 33), (0, .nameAndType 34 35), (0, u "kind"), (0, u "Lcom/example/gapkeeper/gapkeeper/engine/Lock$Kind;"), (0, .methodref 8 37), (0, .nameAndType 5 38), (0, u "(Lcom/example/gapkeeper/gapkeeper/engine/Transaction;Lcom/example/gapkeeper/gapkeeper/engine/Table;Lcom/example/gapkeeper/gapkeeper/engine/Index;Lcom/example/gapkeeper/gapkeeper/engine/Key;Lcom/example/gapkeeper/gapkeeper/engine/Lock$Mode;Lcom/example/gapkeeper/gapkeeper/engine/Lock$Kind;)V"), (1, .class_ 42), (1, u "com/example/gapkeeper/gapkeeper/engine/Lock$Kind"), (6, u "runLast"), (2, u "runEntry"), (24, u "rowLock"), (0, u "Lcom/example/gapkeeper/gapkeeper/engine/Lock;"), (2, u "gapLock"), (2, u "gapParts"), (0, u "I"), (2, u "gapFirst"), (0, u "Z"), (30, .class_ 122), (1, u "com/example/gapkeeper/gapkeeper/engine/Lock$Mode"), (7, u "waiting"), (7, u "standsAhead"), (0, u "inSlots"), (0, u "ownerPrevious"), (0, u "ownerNext"), (2, u "onTable"), (0, u "(Lcom/example/gapkeeper/gapkeeper/engine/Transaction;Lcom/example/gapkeeper/gapkeeper/engine/Table;Lcom/example/gapkeeper/gapkeeper/engine/Lock$Mode;)Lcom/example/gapkeeper/gapkeeper/engine/Lock;")] 31

def k2c0 : Code := { maxStack := 2, maxLocals := 7, code := prog_52_method_1_code, exceptionTable := #[], attributes := #[] }
def k2m0 : Method := { name := "<init>", desc := "(Lcom/example/gapkeeper/gapkeeper/engine/Transaction;Lcom/example/gapkeeper/gapkeeper/engine/Table;Lcom/example/gapkeeper/gapkeeper/engine/Index;Lcom/example/gapkeeper/gapkeeper/engine/Key;Lcom/example/gapkeeper/gapkeeper/engine/Lock$Mode;Lcom/example/gapkeeper/gapkeeper/engine/Lock$Kind;)V", sig := { parameters := [(.object "com/example/gapkeeper/gapkeeper/engine/Transaction"), (.object "com/example/gapkeeper/gapkeeper/engine/Table"), (.object "com/example/gapkeeper/gapkeeper/engine/Index"), (.object "com/example/gapkeeper/gapkeeper/engine/Key"), (.object "com/example/gapkeeper/gapkeeper/engine/Lock$Mode"), (.object "com/example/gapkeeper/gapkeeper/engine/Lock$Kind")], returnType := none }, accessFlags := 2, code := some k2c0 }
def k2c1 : Code := { maxStack := 8, maxLocals := 3, code := prog_52_method_2_code, exceptionTable := #[], attributes := #[] }
def k2m1 : Method := { name := "onTable", desc := "(Lcom/example/gapkeeper/gapkeeper/engine/Transaction;Lcom/example/gapkeeper/gapkeeper/engine/Table;Lcom/example/gapkeeper/gapkeeper/engine/Lock$Mode;)Lcom/example/gapkeeper/gapkeeper/engine/Lock;", sig := { parameters := [(.object "com/example/gapkeeper/gapkeeper/engine/Transaction"), (.object "com/example/gapkeeper/gapkeeper/engine/Table"), (.object "com/example/gapkeeper/gapkeeper/engine/Lock$Mode")], returnType := some (.object "com/example/gapkeeper/gapkeeper/engine/Lock") }, accessFlags := 8, code := some k2c1 }
/-- com/example/gapkeeper/gapkeeper/engine/Lock -/
def k2 : Class := { plain "com/example/gapkeeper/gapkeeper/engine/Lock" (some 0) with
  accessFlags := 48
  interfaces := #[]
  cf := some (fileOf pool2 8 #[.nestMembers #[40, 120]] #[{ accessFlags := 2, nameIndex := 5, descriptorIndex := 38, attributes := #[] }, { accessFlags := 8, nameIndex := 144, descriptorIndex := 145, attributes := #[] }] 48 2 #[] #[{ accessFlags := 16, nameIndex := 11, descriptorIndex := 12, attributes := #[] }, { accessFlags := 16, nameIndex := 15, descriptorIndex := 16, attributes := #[] }, { accessFlags := 16, nameIndex := 19, descriptorIndex := 20, attributes := #[] }, { accessFlags := 16, nameIndex := 30, descriptorIndex := 31, attributes := #[] }, { accessFlags := 16, nameIndex := 34, descriptorIndex := 35, attributes := #[] }, { accessFlags := 0, nameIndex := 23, descriptorIndex := 24, attributes := #[] }, { accessFlags := 0, nameIndex := 27, descriptorIndex := 24, attributes := #[] }, { accessFlags := 2, nameIndex := 52, descriptorIndex := 24, attributes := #[] }, { accessFlags := 2, nameIndex := 49, descriptorIndex := 24, attributes := #[] }, { accessFlags := 0, nameIndex := 130, descriptorIndex := 89, attributes := #[] }, { accessFlags := 0, nameIndex := 77, descriptorIndex := 78, attributes := #[] }, { accessFlags := 0, nameIndex := 81, descriptorIndex := 78, attributes := #[] }, { accessFlags := 0, nameIndex := 84, descriptorIndex := 85, attributes := #[] }, { accessFlags := 0, nameIndex := 88, descriptorIndex := 89, attributes := #[] }, { accessFlags := 0, nameIndex := 138, descriptorIndex := 89, attributes := #[] }, { accessFlags := 0, nameIndex := 139, descriptorIndex := 89, attributes := #[] }, { accessFlags := 0, nameIndex := 140, descriptorIndex := 78, attributes := #[] }, { accessFlags := 0, nameIndex := 141, descriptorIndex := 78, attributes := #[] }])
  fields := #[{ name := "owner", type := (.object "com/example/gapkeeper/gapkeeper/engine/Transaction"), accessFlags := 16, slot := 0, constantValue := 0 }, { name := "table", type := (.object "com/example/gapkeeper/gapkeeper/engine/Table"), accessFlags := 16, slot := 1, constantValue := 0 }, { name := "index", type := (.object "com/example/gapkeeper/gapkeeper/engine/Index"), accessFlags := 16, slot := 2, constantValue := 0 }, { name := "mode", type := (.object "com/example/gapkeeper/gapkeeper/engine/Lock$Mode"), accessFlags := 16, slot := 3, constantValue := 0 }, { name := "kind", type := (.object "com/example/gapkeeper/gapkeeper/engine/Lock$Kind"), accessFlags := 16, slot := 4, constantValue := 0 }, { name := "entry", type := (.object "com/example/gapkeeper/gapkeeper/engine/Key"), accessFlags := 0, slot := 5, constantValue := 0 }, { name := "last", type := (.object "com/example/gapkeeper/gapkeeper/engine/Key"), accessFlags := 0, slot := 6, constantValue := 0 }, { name := "runEntry", type := (.object "com/example/gapkeeper/gapkeeper/engine/Key"), accessFlags := 2, slot := 7, constantValue := 0 }, { name := "runLast", type := (.object "com/example/gapkeeper/gapkeeper/engine/Key"), accessFlags := 2, slot := 8, constantValue := 0 }, { name := "waiting", type := .boolean, accessFlags := 0, slot := 9, constantValue := 0 }, { name := "rowLock", type := (.object "com/example/gapkeeper/gapkeeper/engine/Lock"), accessFlags := 0, slot := 10, constantValue := 0 }, { name := "gapLock", type := (.object "com/example/gapkeeper/gapkeeper/engine/Lock"), accessFlags := 0, slot := 11, constantValue := 0 }, { name := "gapParts", type := .int, accessFlags := 0, slot := 12, constantValue := 0 }, { name := "gapFirst", type := .boolean, accessFlags := 0, slot := 13, constantValue := 0 }, { name := "standsAhead", type := .boolean, accessFlags := 0, slot := 14, constantValue := 0 }, { name := "inSlots", type := .boolean, accessFlags := 0, slot := 15, constantValue := 0 }, { name := "ownerPrevious", type := (.object "com/example/gapkeeper/gapkeeper/engine/Lock"), accessFlags := 0, slot := 16, constantValue := 0 }, { name := "ownerNext", type := (.object "com/example/gapkeeper/gapkeeper/engine/Lock"), accessFlags := 0, slot := 17, constantValue := 0 }]
  methods := #[k2m0, k2m1]
  instanceTypes := #[(.object "com/example/gapkeeper/gapkeeper/engine/Transaction"), (.object "com/example/gapkeeper/gapkeeper/engine/Table"), (.object "com/example/gapkeeper/gapkeeper/engine/Index"), (.object "com/example/gapkeeper/gapkeeper/engine/Lock$Mode"), (.object "com/example/gapkeeper/gapkeeper/engine/Lock$Kind"), (.object "com/example/gapkeeper/gapkeeper/engine/Key"), (.object "com/example/gapkeeper/gapkeeper/engine/Key"), (.object "com/example/gapkeeper/gapkeeper/engine/Key"), (.object "com/example/gapkeeper/gapkeeper/engine/Key"), .boolean, (.object "com/example/gapkeeper/gapkeeper/engine/Lock"), (.object "com/example/gapkeeper/gapkeeper/engine/Lock"), .int, .boolean, .boolean, .boolean, (.object "com/example/gapkeeper/gapkeeper/engine/Lock"), (.object "com/example/gapkeeper/gapkeeper/engine/Lock")]
  staticTypes := #[]
  resolved := Array.replicate 177 none
  statics := none }

def pool3 : Array CpInfo := pool [(8, .class_ 10), (1, u "java/lang/Iterable"), (24, .class_ 36), (0, u "java/lang/Object")] 25

/-- java/lang/Iterable -/
def k3 : Class := { plain "java/lang/Iterable" (some 0) with
  accessFlags := 1537
  interfaces := #[]
  cf := some (fileOf pool3 8 #[] #[] 1537 35 #[] #[])
  fields := #[]
  methods := #[]
  instanceTypes := #[]
  staticTypes := #[]
  resolved := Array.replicate 62 none
  statics := none }

def pool4 : Array CpInfo := pool [(1, .methodref 2 3), (0, .class_ 4), (0, .nameAndType 5 6), (0, u "java/lang/Object"), (0, u "<init>"), (0, u "()V"), (0, .fieldref 8 9), (0, .class_ 10), (0, .nameAndType 11 12), (0, u "com/example/gapkeeper/gapkeeper/engine/LockList"), (0, u "last"), (0, u "Lcom/example/gapkeeper/gapkeeper/engine/Lock;"), (0, .methodref 8 14), (0, .nameAndType 15 16), (0, u "link"), (0, u "(Lcom/example/gapkeeper/gapkeeper/engine/Lock;Lcom/example/gapkeeper/gapkeeper/engine/Lock;Lcom/example/gapkeeper/gapkeeper/engine/Lock;)V"), (0, .fieldref 18 19), (0, .class_ 20), (0, .nameAndType 21 12), (0, u "com/example/gapkeeper/gapkeeper/engine/Lock"), (0, u "ownerPrevious"), (0, .fieldref 18 23), (0, .nameAndType 24 12), (0, u "ownerNext"), (0, .methodref 8 26), (0, .nameAndType 27 28), (0, u "join"), (0, u "(Lcom/example/gapkeeper/gapkeeper/engine/Lock;Lcom/example/gapkeeper/gapkeeper/engine/Lock;)V"), (0, .fieldref 8 30), (0, .nameAndType 31 32), (0, u "size"), (0, u "I"), (0, .fieldref 8 34), (0, .nameAndType 35 12), (0, u "first"), (0, .class_ 37), (0, u "com/example/gapkeeper/gapkeeper/engine/LockList$1"), (0, .methodref 36 39), (0, .nameAndType 5 40), (0, u "(Lcom/example/gapkeeper/gapkeeper/engine/LockList;)V"), (0, .class_ 42), (0, u "java/lang/Iterable"), (2, u "add"), (0, u "(Lcom/example/gapkeeper/gapkeeper/engine/Lock;)V"), (3, u "clear"), (1, u "()Lcom/example/gapkeeper/gapkeeper/engine/Lock;"), (2, u "()I"), (0, u "iterator"), (0, u "()Ljava/util/Iterator;")] 7

def k4c0 : Code := { maxStack := 1, maxLocals := 1, code := prog_61_method_1_code, exceptionTable := #[], attributes := #[] }
def k4m0 : Method := { name := "<init>", desc := "()V", sig := { parameters := [], returnType := none }, accessFlags := 0, code := some k4c0 }
def k4c1 : Code := { maxStack := 4, maxLocals := 2, code := prog_61_method_2_code, exceptionTable := #[], attributes := #[] }
def k4m1 : Method := { name := "add", desc := "(Lcom/example/gapkeeper/gapkeeper/engine/Lock;)V", sig := { parameters := [(.object "com/example/gapkeeper/gapkeeper/engine/Lock")], returnType := none }, accessFlags := 0, code := some k4c1 }
def k4c2 : Code := { maxStack := 2, maxLocals := 3, code := prog_61_method_6_code, exceptionTable := #[], attributes := #[] }
def k4m2 : Method := { name := "clear", desc := "()V", sig := { parameters := [], returnType := none }, accessFlags := 0, code := some k4c2 }
def k4c3 : Code := { maxStack := 1, maxLocals := 1, code := prog_61_method_7_code, exceptionTable := #[], attributes := #[] }
def k4m3 : Method := { name := "last", desc := "()Lcom/example/gapkeeper/gapkeeper/engine/Lock;", sig := { parameters := [], returnType := some (.object "com/example/gapkeeper/gapkeeper/engine/Lock") }, accessFlags := 0, code := some k4c3 }
def k4c4 : Code := { maxStack := 1, maxLocals := 1, code := prog_61_method_9_code, exceptionTable := #[], attributes := #[] }
def k4m4 : Method := { name := "size", desc := "()I", sig := { parameters := [], returnType := some .int }, accessFlags := 0, code := some k4c4 }
def k4c5 : Code := { maxStack := 3, maxLocals := 1, code := prog_61_method_10_code, exceptionTable := #[], attributes := #[] }
def k4m5 : Method := { name := "iterator", desc := "()Ljava/util/Iterator;", sig := { parameters := [], returnType := some (.object "java/util/Iterator") }, accessFlags := 1, code := some k4c5 }
def k4c6 : Code := { maxStack := 3, maxLocals := 4, code := prog_61_method_11_code, exceptionTable := #[], attributes := #[] }
def k4m6 : Method := { name := "link", desc := "(Lcom/example/gapkeeper/gapkeeper/engine/Lock;Lcom/example/gapkeeper/gapkeeper/engine/Lock;Lcom/example/gapkeeper/gapkeeper/engine/Lock;)V", sig := { parameters := [(.object "com/example/gapkeeper/gapkeeper/engine/Lock"), (.object "com/example/gapkeeper/gapkeeper/engine/Lock"), (.object "com/example/gapkeeper/gapkeeper/engine/Lock")], returnType := none }, accessFlags := 2, code := some k4c6 }
def k4c7 : Code := { maxStack := 2, maxLocals := 3, code := prog_61_method_12_code, exceptionTable := #[], attributes := #[] }
def k4m7 : Method := { name := "join", desc := "(Lcom/example/gapkeeper/gapkeeper/engine/Lock;Lcom/example/gapkeeper/gapkeeper/engine/Lock;)V", sig := { parameters := [(.object "com/example/gapkeeper/gapkeeper/engine/Lock"), (.object "com/example/gapkeeper/gapkeeper/engine/Lock")], returnType := none }, accessFlags := 2, code := some k4c7 }
/-- com/example/gapkeeper/gapkeeper/engine/LockList -/
def k4 : Class := { plain "com/example/gapkeeper/gapkeeper/engine/LockList" (some 0) with
  accessFlags := 48
  interfaces := #[3]
  cf := some (fileOf pool4 8 #[.nestMembers #[36]] #[{ accessFlags := 0, nameIndex := 5, descriptorIndex := 6, attributes := #[] }, { accessFlags := 0, nameIndex := 45, descriptorIndex := 46, attributes := #[] }, { accessFlags := 0, nameIndex := 50, descriptorIndex := 6, attributes := #[] }, { accessFlags := 0, nameIndex := 11, descriptorIndex := 52, attributes := #[] }, { accessFlags := 0, nameIndex := 31, descriptorIndex := 55, attributes := #[] }, { accessFlags := 1, nameIndex := 56, descriptorIndex := 57, attributes := #[] }, { accessFlags := 2, nameIndex := 15, descriptorIndex := 16, attributes := #[] }, { accessFlags := 2, nameIndex := 27, descriptorIndex := 28, attributes := #[] }] 48 2 #[41] #[{ accessFlags := 2, nameIndex := 35, descriptorIndex := 12, attributes := #[] }, { accessFlags := 2, nameIndex := 11, descriptorIndex := 12, attributes := #[] }, { accessFlags := 2, nameIndex := 31, descriptorIndex := 32, attributes := #[] }])
  fields := #[{ name := "first", type := (.object "com/example/gapkeeper/gapkeeper/engine/Lock"), accessFlags := 2, slot := 0, constantValue := 0 }, { name := "last", type := (.object "com/example/gapkeeper/gapkeeper/engine/Lock"), accessFlags := 2, slot := 1, constantValue := 0 }, { name := "size", type := .int, accessFlags := 2, slot := 2, constantValue := 0 }]
  methods := #[k4m0, k4m1, k4m2, k4m3, k4m4, k4m5, k4m6, k4m7]
  instanceTypes := #[(.object "com/example/gapkeeper/gapkeeper/engine/Lock"), (.object "com/example/gapkeeper/gapkeeper/engine/Lock"), .int]
  staticTypes := #[]
  resolved := Array.replicate 65 none
  statics := none }

def pool5 : Array CpInfo := pool [(16, .class_ 18), (1, u "java/util/Iterator"), (0, u "hasNext"), (0, u "()Z"), (10, .class_ 32), (0, u "java/lang/Object")] 20

def k5m0 : Method := { name := "hasNext", desc := "()Z", sig := { parameters := [], returnType := some .boolean }, accessFlags := 1025, code := none }
/-- java/util/Iterator -/
def k5 : Class := { plain "java/util/Iterator" (some 0) with
  accessFlags := 1537
  interfaces := #[]
  cf := some (fileOf pool5 16 #[] #[{ accessFlags := 1025, nameIndex := 19, descriptorIndex := 20, attributes := #[] }] 1537 31 #[] #[])
  fields := #[]
  methods := #[k5m0]
  instanceTypes := #[]
  staticTypes := #[]
  resolved := Array.replicate 53 none
  statics := none }

def pool6 : Array CpInfo := pool [(1, .fieldref 2 3), (0, .class_ 4), (0, .nameAndType 5 6), (0, u "com/example/gapkeeper/gapkeeper/engine/LockList$1"), (0, u "this$0"), (0, u "Lcom/example/gapkeeper/gapkeeper/engine/LockList;"), (0, .methodref 8 9), (0, .class_ 10), (0, .nameAndType 11 12), (0, u "java/lang/Object"), (0, u "<init>"), (0, u "()V"), (0, .fieldref 14 15), (0, .class_ 16), (0, .nameAndType 17 18), (0, u "com/example/gapkeeper/gapkeeper/engine/LockList"), (0, u "first"), (0, u "Lcom/example/gapkeeper/gapkeeper/engine/Lock;"), (0, .fieldref 2 20), (0, .nameAndType 21 18), (0, u "next"), (11, .class_ 34), (0, u "java/util/Iterator"), (0, u "(Lcom/example/gapkeeper/gapkeeper/engine/LockList;)V"), (3, u "hasNext"), (0, u "()Z")] 12

def k6c0 : Code := { maxStack := 2, maxLocals := 2, code := prog_62_method_1_code, exceptionTable := #[], attributes := #[] }
def k6m0 : Method := { name := "<init>", desc := "(Lcom/example/gapkeeper/gapkeeper/engine/LockList;)V", sig := { parameters := [(.object "com/example/gapkeeper/gapkeeper/engine/LockList")], returnType := none }, accessFlags := 0, code := some k6c0 }
def k6c1 : Code := { maxStack := 1, maxLocals := 1, code := prog_62_method_2_code, exceptionTable := #[], attributes := #[] }
def k6m1 : Method := { name := "hasNext", desc := "()Z", sig := { parameters := [], returnType := some .boolean }, accessFlags := 1, code := some k6c1 }
/-- com/example/gapkeeper/gapkeeper/engine/LockList$1 -/
def k6 : Class := { plain "com/example/gapkeeper/gapkeeper/engine/LockList$1" (some 0) with
  accessFlags := 32
  interfaces := #[5]
  cf := some (fileOf pool6 2 #[.nestHost 14] #[{ accessFlags := 0, nameIndex := 11, descriptorIndex := 35, attributes := #[] }, { accessFlags := 1, nameIndex := 39, descriptorIndex := 40, attributes := #[] }] 32 8 #[33] #[{ accessFlags := 2, nameIndex := 21, descriptorIndex := 18, attributes := #[] }, { accessFlags := 4112, nameIndex := 5, descriptorIndex := 6, attributes := #[] }])
  fields := #[{ name := "next", type := (.object "com/example/gapkeeper/gapkeeper/engine/Lock"), accessFlags := 2, slot := 0, constantValue := 0 }, { name := "this$0", type := (.object "com/example/gapkeeper/gapkeeper/engine/LockList"), accessFlags := 4112, slot := 1, constantValue := 0 }]
  methods := #[k6m0, k6m1]
  instanceTypes := #[(.object "com/example/gapkeeper/gapkeeper/engine/Lock"), (.object "com/example/gapkeeper/gapkeeper/engine/LockList")]
  staticTypes := #[]
  resolved := Array.replicate 53 none
  statics := none }

def pool7 : Array CpInfo := pool [(1, u "java/lang/Cloneable"), (0, .class_ 1), (0, u "java/lang/Object"), (0, .class_ 3)] 3

/-- java/lang/Cloneable -/
def k7 : Class := { plain "java/lang/Cloneable" (some 0) with
  accessFlags := 1537
  interfaces := #[]
  cf := some (fileOf pool7 2 #[] #[] 1537 4 #[] #[])
  fields := #[]
  methods := #[]
  instanceTypes := #[]
  staticTypes := #[]
  resolved := Array.replicate 8 none
  statics := none }

def pool8 : Array CpInfo := pool [(1, u "java/io/Serializable"), (0, .class_ 1), (0, u "java/lang/Object"), (0, .class_ 3)] 3

/-- java/io/Serializable -/
def k8 : Class := { plain "java/io/Serializable" (some 0) with
  accessFlags := 1537
  interfaces := #[]
  cf := some (fileOf pool8 2 #[] #[] 1537 4 #[] #[])
  fields := #[]
  methods := #[]
  instanceTypes := #[]
  staticTypes := #[]
  resolved := Array.replicate 8 none
  statics := none }

/-- the primitive byte -/
def k9 : Class := { plain "byte" none with kind := .primitive 'B', accessFlags := 0x411 }
/-- [B -/
def k10 : Class := { plain "[B" (some 0) with kind := .array 9 .byte, interfaces := #[7, 8], accessFlags := 1041 }

/-- the primitive int -/
def k11 : Class := { plain "int" none with kind := .primitive 'I', accessFlags := 0x411 }
/-- [I -/
def k12 : Class := { plain "[I" (some 0) with kind := .array 11 .int, interfaces := #[7, 8], accessFlags := 1041 }

def heap : Heap := #[]
def classes : Array Class := #[k0, k1, k2, k3, k4, k5, k6, k7, k8, k9, k10, k11, k12]
def interned : List (Array UInt16 × Addr) := []
def slotsUsed : Nat := 0
def theMethod : MethodId := ⟨1, 1⟩
def args0 : Array Value := #[.int 5]
def aboutOver (below : List Frame) : State where
  vm := { classes := classes, interned := interned.toArray }
  heap := heap
  slotsUsed := slotsUsed
  threads := #[{ frames := .invoking theMethod args0 :: below }]
def below0 : List Frame := [.native { method := ⟨0, 0⟩, args := #[] }]
def about1 : State := aboutOver below0
def p0 : Program := .bare "" "" ""
def e0 : Env := launch0.env 0 0 0
theorem w_frames : about1.frames = Frame.invoking theMethod args0 :: below0 := rfl
set_option maxRecDepth 65536 in
theorem w_args : argsFit about1.vm theMethod args0 = true := by decide +kernel
set_option maxRecDepth 65536 in
theorem w_heap : heapFits about1 = true := by decide +kernel
set_option maxRecDepth 65536 in
theorem w_runnable : about1.curStatus? = some .runnable := by decide +kernel
set_option maxRecDepth 65536 in
theorem w_alone : about1.alone = true := by decide +kernel
set_option maxRecDepth 65536 in
theorem w_named : about1.methodNamed? x = some theMethod := by decide +kernel
set_option maxRecDepth 65536 in
theorem w_hears : about1.hears theMethod below0 = true := by decide +kernel
set_option maxRecDepth 65536 in
theorem w_ripe : about1.ripe theMethod args0 below0 = true := by decide +kernel
theorem w_running : about1.status = .running := rfl
set_option maxRecDepth 65536 in
theorem w_room : about1.hasRoom e0.platform room_1 = true :=
  launch0.hasRoom_least _ room_1 (by decide +kernel) (by decide +kernel) (by decide +kernel) (by decide +kernel) (by decide +kernel) (by decide +kernel)
theorem allAtoms_all (ts : List Jvm.Cond) (a : Array Jvm.Value) (st : Jvm.State) : (allAtoms ts).before a st = ts.all (fun c => c.before a st) := by
  induction ts with
  | nil => rfl
  | cons c t ih =>
    show (Jvm.Cond.and c (allAtoms t)).before a st = _
    rw [Jvm.Cond.before_and, ih, List.all_cons]
def words1 : List Jvm.Cond := Jvm.Cond.code x code maxLocals ret :: tables_1
/-- a 'code' word, met by the world's own term for the bytes: nothing is compared byte by byte -/
theorem code_word {y : MethodName} {bytes : ByteArray} {mx : Nat} {rt : Option FieldType} {a : Array Value} {s : State} {m : MethodId} {meth : Method} {c : Code} (h1 : s.methodNamed? y = some m) (h2 : s.vm.method? m = some meth) (h3 : meth.code = some c) (h4 : c.code = bytes)
    (h5 : (c.maxLocals == mx && c.exceptionTable.isEmpty && decide (c.maxStack ≤ mostOperands) && decide (meth.sig.returnType = rt) && !meth.locks && decide (parseMethodDescriptor y.desc = some meth.sig)) = true) : (Jvm.Cond.code y bytes mx rt).before a s = true := by
  simp only [Bool.and_eq_true, beq_iff_eq, Bool.not_eq_true', decide_eq_true_eq] at h5
  obtain ⟨⟨⟨⟨⟨g1, g2⟩, g3⟩, g4⟩, g5⟩, g6⟩ := h5
  simp [Cond.before, Cond.holds, Cond.value, h1, h2, h3, h4, g1, g2, g3, g4, g5, g6]
def isCode : Jvm.Cond → Bool
  | .code _ _ _ _ => true
  | _ => false
theorem all_split {L : List Jvm.Cond} {P : Jvm.Cond → Bool} (h1 : L.all (fun c => isCode c || P c) = true) (h2 : ∀ c ∈ L.filter isCode, P c = true) : L.all P = true := by
  refine List.all_eq_true.mpr fun c hc => ?_
  have h := List.all_eq_true.mp h1 c hc
  rcases Bool.eq_false_or_eq_true (isCode c) with hi | hi
  · exact h2 c (List.mem_filter.mpr ⟨hc, hi⟩)
  · simpa [hi] using h
set_option maxRecDepth 65536 in
theorem w_c0 : (Jvm.Cond.code x code maxLocals ret).before args0 about1 = true := code_word (m := ⟨1, 1⟩) (meth := k1m1) (c := k1c1) (by decide +kernel) rfl rfl rfl (by decide +kernel)
set_option maxRecDepth 65536 in
theorem w_c1 : (Jvm.Cond.code ({ cls := "com/example/gapkeeper/gapkeeper/engine/Lock", name := "onTable", desc := "(Lcom/example/gapkeeper/gapkeeper/engine/Transaction;Lcom/example/gapkeeper/gapkeeper/engine/Table;Lcom/example/gapkeeper/gapkeeper/engine/Lock$Mode;)Lcom/example/gapkeeper/gapkeeper/engine/Lock;" } : Jvm.MethodName) prog_52_method_2_code (3 : Nat) (Option.some (Jvm.ClassFile.FieldType.object "com/example/gapkeeper/gapkeeper/engine/Lock"))).before args0 about1 = true := code_word (m := ⟨2, 1⟩) (meth := k2m1) (c := k2c1) (by decide +kernel) rfl rfl rfl (by decide +kernel)
set_option maxRecDepth 65536 in
theorem w_c2 : (Jvm.Cond.code ({ cls := "com/example/gapkeeper/gapkeeper/engine/Lock", name := "<init>", desc := "(Lcom/example/gapkeeper/gapkeeper/engine/Transaction;Lcom/example/gapkeeper/gapkeeper/engine/Table;Lcom/example/gapkeeper/gapkeeper/engine/Index;Lcom/example/gapkeeper/gapkeeper/engine/Key;Lcom/example/gapkeeper/gapkeeper/engine/Lock$Mode;Lcom/example/gapkeeper/gapkeeper/engine/Lock$Kind;)V" } : Jvm.MethodName) prog_52_method_1_code (7 : Nat) (Option.none : Option Jvm.ClassFile.FieldType)).before args0 about1 = true := code_word (m := ⟨2, 0⟩) (meth := k2m0) (c := k2c0) (by decide +kernel) rfl rfl rfl (by decide +kernel)
set_option maxRecDepth 65536 in
theorem w_c3 : (Jvm.Cond.code ({ cls := "java/lang/Object", name := "<init>", desc := "()V" } : Jvm.MethodName) object_method_1_code (1 : Nat) (Option.none : Option Jvm.ClassFile.FieldType)).before args0 about1 = true := code_word (m := ⟨0, 0⟩) (meth := k0m0) (c := k0c0) (by decide +kernel) rfl rfl rfl (by decide +kernel)
set_option maxRecDepth 65536 in
theorem w_c4 : (Jvm.Cond.code ({ cls := "com/example/gapkeeper/gapkeeper/engine/LockList", name := "<init>", desc := "()V" } : Jvm.MethodName) prog_61_method_1_code (1 : Nat) (Option.none : Option Jvm.ClassFile.FieldType)).before args0 about1 = true := code_word (m := ⟨4, 0⟩) (meth := k4m0) (c := k4c0) (by decide +kernel) rfl rfl rfl (by decide +kernel)
set_option maxRecDepth 65536 in
theorem w_c5 : (Jvm.Cond.code ({ cls := "com/example/gapkeeper/gapkeeper/engine/LockList", name := "clear", desc := "()V" } : Jvm.MethodName) prog_61_method_6_code (3 : Nat) (Option.none : Option Jvm.ClassFile.FieldType)).before args0 about1 = true := code_word (m := ⟨4, 2⟩) (meth := k4m2) (c := k4c2) (by decide +kernel) rfl rfl rfl (by decide +kernel)
set_option maxRecDepth 65536 in
theorem w_c6 : (Jvm.Cond.code ({ cls := "com/example/gapkeeper/gapkeeper/engine/LockList", name := "size", desc := "()I" } : Jvm.MethodName) prog_61_method_9_code (1 : Nat) (Option.some Jvm.ClassFile.FieldType.int)).before args0 about1 = true := code_word (m := ⟨4, 4⟩) (meth := k4m4) (c := k4c4) (by decide +kernel) rfl rfl rfl (by decide +kernel)
set_option maxRecDepth 65536 in
theorem w_c7 : (Jvm.Cond.code ({ cls := "com/example/gapkeeper/gapkeeper/engine/LockList", name := "last", desc := "()Lcom/example/gapkeeper/gapkeeper/engine/Lock;" } : Jvm.MethodName) prog_61_method_7_code (1 : Nat) (Option.some (Jvm.ClassFile.FieldType.object "com/example/gapkeeper/gapkeeper/engine/Lock"))).before args0 about1 = true := code_word (m := ⟨4, 3⟩) (meth := k4m3) (c := k4c3) (by decide +kernel) rfl rfl rfl (by decide +kernel)
set_option maxRecDepth 65536 in
theorem w_c8 : (Jvm.Cond.code ({ cls := "com/example/gapkeeper/gapkeeper/engine/LockList", name := "iterator", desc := "()Ljava/util/Iterator;" } : Jvm.MethodName) prog_61_method_10_code (1 : Nat) (Option.some (Jvm.ClassFile.FieldType.object "java/util/Iterator"))).before args0 about1 = true := code_word (m := ⟨4, 5⟩) (meth := k4m5) (c := k4c5) (by decide +kernel) rfl rfl rfl (by decide +kernel)
set_option maxRecDepth 65536 in
theorem w_c9 : (Jvm.Cond.code ({ cls := "com/example/gapkeeper/gapkeeper/engine/LockList$1", name := "<init>", desc := "(Lcom/example/gapkeeper/gapkeeper/engine/LockList;)V" } : Jvm.MethodName) prog_62_method_1_code (2 : Nat) (Option.none : Option Jvm.ClassFile.FieldType)).before args0 about1 = true := code_word (m := ⟨6, 0⟩) (meth := k6m0) (c := k6c0) (by decide +kernel) rfl rfl rfl (by decide +kernel)
set_option maxRecDepth 65536 in
theorem w_c10 : (Jvm.Cond.code ({ cls := "com/example/gapkeeper/gapkeeper/engine/LockList$1", name := "hasNext", desc := "()Z" } : Jvm.MethodName) prog_62_method_2_code (1 : Nat) (Option.some Jvm.ClassFile.FieldType.boolean)).before args0 about1 = true := code_word (m := ⟨6, 1⟩) (meth := k6m1) (c := k6c1) (by decide +kernel) rfl rfl rfl (by decide +kernel)
set_option maxRecDepth 65536 in
theorem w_c11 : (Jvm.Cond.code ({ cls := "com/example/gapkeeper/gapkeeper/engine/LockList", name := "add", desc := "(Lcom/example/gapkeeper/gapkeeper/engine/Lock;)V" } : Jvm.MethodName) prog_61_method_2_code (2 : Nat) (Option.none : Option Jvm.ClassFile.FieldType)).before args0 about1 = true := code_word (m := ⟨4, 1⟩) (meth := k4m1) (c := k4c1) (by decide +kernel) rfl rfl rfl (by decide +kernel)
set_option maxRecDepth 65536 in
theorem w_c12 : (Jvm.Cond.code ({ cls := "com/example/gapkeeper/gapkeeper/engine/LockList", name := "link", desc := "(Lcom/example/gapkeeper/gapkeeper/engine/Lock;Lcom/example/gapkeeper/gapkeeper/engine/Lock;Lcom/example/gapkeeper/gapkeeper/engine/Lock;)V" } : Jvm.MethodName) prog_61_method_11_code (4 : Nat) (Option.none : Option Jvm.ClassFile.FieldType)).before args0 about1 = true := code_word (m := ⟨4, 6⟩) (meth := k4m6) (c := k4c6) (by decide +kernel) rfl rfl rfl (by decide +kernel)
set_option maxRecDepth 65536 in
theorem w_c13 : (Jvm.Cond.code ({ cls := "com/example/gapkeeper/gapkeeper/engine/LockList", name := "join", desc := "(Lcom/example/gapkeeper/gapkeeper/engine/Lock;Lcom/example/gapkeeper/gapkeeper/engine/Lock;)V" } : Jvm.MethodName) prog_61_method_12_code (3 : Nat) (Option.none : Option Jvm.ClassFile.FieldType)).before args0 about1 = true := code_word (m := ⟨4, 7⟩) (meth := k4m7) (c := k4c7) (by decide +kernel) rfl rfl rfl (by decide +kernel)
def codes1 : List Jvm.Cond := [Jvm.Cond.code x code maxLocals ret, Jvm.Cond.code ({ cls := "com/example/gapkeeper/gapkeeper/engine/Lock", name := "onTable", desc := "(Lcom/example/gapkeeper/gapkeeper/engine/Transaction;Lcom/example/gapkeeper/gapkeeper/engine/Table;Lcom/example/gapkeeper/gapkeeper/engine/Lock$Mode;)Lcom/example/gapkeeper/gapkeeper/engine/Lock;" } : Jvm.MethodName) prog_52_method_2_code (3 : Nat) (Option.some (Jvm.ClassFile.FieldType.object "com/example/gapkeeper/gapkeeper/engine/Lock")), Jvm.Cond.code ({ cls := "com/example/gapkeeper/gapkeeper/engine/Lock", name := "<init>", desc := "(Lcom/example/gapkeeper/gapkeeper/engine/Transaction;Lcom/example/gapkeeper/gapkeeper/engine/Table;Lcom/example/gapkeeper/gapkeeper/engine/Index;Lcom/example/gapkeeper/gapkeeper/engine/Key;Lcom/example/gapkeeper/gapkeeper/engine/Lock$Mode;Lcom/example/gapkeeper/gapkeeper/engine/Lock$Kind;)V" } : Jvm.MethodName) prog_52_method_1_code (7 : Nat) (Option.none : Option Jvm.ClassFile.FieldType), Jvm.Cond.code ({ cls := "java/lang/Object", name := "<init>", desc := "()V" } : Jvm.MethodName) object_method_1_code (1 : Nat) (Option.none : Option Jvm.ClassFile.FieldType), Jvm.Cond.code ({ cls := "com/example/gapkeeper/gapkeeper/engine/LockList", name := "<init>", desc := "()V" } : Jvm.MethodName) prog_61_method_1_code (1 : Nat) (Option.none : Option Jvm.ClassFile.FieldType), Jvm.Cond.code ({ cls := "com/example/gapkeeper/gapkeeper/engine/LockList", name := "clear", desc := "()V" } : Jvm.MethodName) prog_61_method_6_code (3 : Nat) (Option.none : Option Jvm.ClassFile.FieldType), Jvm.Cond.code ({ cls := "com/example/gapkeeper/gapkeeper/engine/LockList", name := "size", desc := "()I" } : Jvm.MethodName) prog_61_method_9_code (1 : Nat) (Option.some Jvm.ClassFile.FieldType.int), Jvm.Cond.code ({ cls := "com/example/gapkeeper/gapkeeper/engine/LockList", name := "last", desc := "()Lcom/example/gapkeeper/gapkeeper/engine/Lock;" } : Jvm.MethodName) prog_61_method_7_code (1 : Nat) (Option.some (Jvm.ClassFile.FieldType.object "com/example/gapkeeper/gapkeeper/engine/Lock")), Jvm.Cond.code ({ cls := "com/example/gapkeeper/gapkeeper/engine/LockList", name := "iterator", desc := "()Ljava/util/Iterator;" } : Jvm.MethodName) prog_61_method_10_code (1 : Nat) (Option.some (Jvm.ClassFile.FieldType.object "java/util/Iterator")), Jvm.Cond.code ({ cls := "com/example/gapkeeper/gapkeeper/engine/LockList$1", name := "<init>", desc := "(Lcom/example/gapkeeper/gapkeeper/engine/LockList;)V" } : Jvm.MethodName) prog_62_method_1_code (2 : Nat) (Option.none : Option Jvm.ClassFile.FieldType), Jvm.Cond.code ({ cls := "com/example/gapkeeper/gapkeeper/engine/LockList$1", name := "hasNext", desc := "()Z" } : Jvm.MethodName) prog_62_method_2_code (1 : Nat) (Option.some Jvm.ClassFile.FieldType.boolean), Jvm.Cond.code ({ cls := "com/example/gapkeeper/gapkeeper/engine/LockList", name := "add", desc := "(Lcom/example/gapkeeper/gapkeeper/engine/Lock;)V" } : Jvm.MethodName) prog_61_method_2_code (2 : Nat) (Option.none : Option Jvm.ClassFile.FieldType), Jvm.Cond.code ({ cls := "com/example/gapkeeper/gapkeeper/engine/LockList", name := "link", desc := "(Lcom/example/gapkeeper/gapkeeper/engine/Lock;Lcom/example/gapkeeper/gapkeeper/engine/Lock;Lcom/example/gapkeeper/gapkeeper/engine/Lock;)V" } : Jvm.MethodName) prog_61_method_11_code (4 : Nat) (Option.none : Option Jvm.ClassFile.FieldType), Jvm.Cond.code ({ cls := "com/example/gapkeeper/gapkeeper/engine/LockList", name := "join", desc := "(Lcom/example/gapkeeper/gapkeeper/engine/Lock;Lcom/example/gapkeeper/gapkeeper/engine/Lock;)V" } : Jvm.MethodName) prog_61_method_12_code (3 : Nat) (Option.none : Option Jvm.ClassFile.FieldType)]
set_option maxRecDepth 65536 in
theorem codes_eq : words1.filter isCode = codes1 := rfl
theorem w_codes : ∀ c ∈ words1.filter isCode, c.before args0 about1 = true := by
  rw [codes_eq]
  intro c hc
  simp only [codes1, List.mem_cons, List.not_mem_nil, or_false] at hc
  rcases hc with rfl | rfl | rfl | rfl | rfl | rfl | rfl | rfl | rfl | rfl | rfl | rfl | rfl | rfl
  · exact w_c0
  · exact w_c1
  · exact w_c2
  · exact w_c3
  · exact w_c4
  · exact w_c5
  · exact w_c6
  · exact w_c7
  · exact w_c8
  · exact w_c9
  · exact w_c10
  · exact w_c11
  · exact w_c12
  · exact w_c13
set_option maxRecDepth 65536 in
theorem w_t1 : (words1.take 24).all (fun c => isCode c || c.before args0 about1) = true := by decide +kernel
set_option maxRecDepth 65536 in
theorem w_t2 : ((words1.drop 24).take 24).all (fun c => isCode c || c.before args0 about1) = true := by decide +kernel
set_option maxRecDepth 65536 in
theorem w_t3 : (((words1.drop 24).drop 24).take 24).all (fun c => isCode c || c.before args0 about1) = true := by decide +kernel
set_option maxRecDepth 65536 in
theorem w_t4 : ((((words1.drop 24).drop 24).drop 24).take 24).all (fun c => isCode c || c.before args0 about1) = true := by decide +kernel
set_option maxRecDepth 65536 in
theorem w_t5 : ((((words1.drop 24).drop 24).drop 24).drop 24).all (fun c => isCode c || c.before args0 about1) = true := by decide +kernel
theorem w_tables : (allAtoms (Jvm.Cond.code x code maxLocals ret :: tables_1)).before args0 about1 = true := by
  rw [allAtoms_all]
  show words1.all (fun c => c.before args0 about1) = true
  refine all_split ?_ w_codes
  rw [← List.take_append_drop 24 words1, List.all_append, w_t1, ← List.take_append_drop 24 (words1.drop 24), List.all_append, w_t2, ← List.take_append_drop 24 ((words1.drop 24).drop 24), List.all_append, w_t3, ← List.take_append_drop 24 (((words1.drop 24).drop 24).drop 24), List.all_append, w_t4, w_t5]
  rfl
set_option maxRecDepth 65536 in
theorem w_case : (Jvm.Cond.and given_1 narrow_1).before args0 about1 = true := by decide +kernel
theorem w_applies : (headSpec (Jvm.Cond.code x code maxLocals ret :: tables_1) room_1).applies x e0.platform about1 = true :=
  (Spec.applies_iff w_frames).mpr ⟨w_running, w_runnable, w_alone, w_named, w_hears, w_ripe, w_room, w_tables⟩
theorem atStart : AtStart classFile x code maxLocals ret World_1 tables_1 room_1 Calls_1 rest_1 Pre_1 launch0 p0 e0 about1 theMethod args0 below0 :=
  ⟨lists_1, trivial, launch0.admits_env _ _ _, launch0.least_env, fairChoices_fair.cas, fairChoices_fair.clock, w_frames, w_args, w_heap, w_applies, trivial, trivial, w_case⟩
end start1
theorem witness_1 : WitnessClaimed_1 := ⟨start1.p0, start1.e0, start1.about1, start1.theMethod, start1.args0, start1.below0, start1.atStart⟩
end Jvm.Pilot.@@N@@
