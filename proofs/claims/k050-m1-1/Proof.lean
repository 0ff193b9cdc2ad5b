import JvmDerived
import JvmDerived.Pilot.@@N@@Statement
import JvmDerived.Pilot.@@N@@Code
set_option linter.unusedVariables false
set_option linter.unusedSimpArgs false
namespace Jvm.Pilot.@@N@@
open Jvm Jvm.ClassFile Sem Op Lib Jvm.Free Jvm.Stand Jvm.LawKit Jvm.RoadKit Bundle Jvm.Pilot.@@N@@.Jvm.D
/-! ## own kit, part 0: words, small numbers -/
theorem wd {a0 : Array Value} {Z : State} (hw : ∀ d ∈ tables_1, d.before a0 Z = true) (k : Nat) {d : Jvm.Cond} (h : tables_1[k]? = some d) : d.before a0 Z = true := hw d (List.mem_of_getElem? h)
theorem own_hn {fs : List (String × String × String × Value)} {nm : List String} {j : Nat} {f : String × String × String × Value} (hj : fs[j]? = some f) (h : fs.map (fun z => z.2.1) = nm) (hN : nm.Nodup) : ∀ i f', fs[i]? = some f' → i ≠ j → f'.2.1 ≠ f.2.1 := fun i f' hi q e => by
  subst h
  have a1 : (fs.map (fun z => z.2.1))[i]? = some f'.2.1 := by rw [List.getElem?_map, hi]; rfl
  have a2 : (fs.map (fun z => z.2.1))[j]? = some f.2.1 := by rw [List.getElem?_map, hj]; rfl
  obtain ⟨l1, e1⟩ := List.getElem?_eq_some_iff.mp a1
  obtain ⟨l2, e2⟩ := List.getElem?_eq_some_iff.mp a2
  exact q ((List.getElem_inj hN).mp (e1.trans (e.trans e2.symm)))
theorem own_fld {args : Array Value} {s : State} {t b : Term} {C n d : String} {v : Value} {a : Addr} (ev : t.eval args s none [] s = some (.ref a)) (hb : b.eval args s none [] s = some v) (h : (Jvm.Cond.eq (Term.field t C n d) b).value args s none s [] = some true) : Fld s s.heap a C n d v := by
  have e := fld_at (C := C) (n := n) (dd := d) ev
  cases hf : s.fieldOf? a C n d with
  | none => rw [hf] at e; simp [Cond.value, e] at h
  | some w =>
    rw [hf] at e
    have : w = v := by
      cases w <;> cases v <;> simp [Cond.value, e, hb] at h ⊢ <;> exact h
    subst this
    exact Fld.start hf
theorem own_rem (x k : Int32) (hk : 0 < k.toInt) : 0 ≤ ((x &&& 2147483647) % k).toInt ∧ ((x &&& 2147483647) % k).toInt < k.toInt := by
  have h := (c_andS x 2147483647).2.2 (by decide)
  rw [Int32.toInt_mod]
  exact ⟨Int.tmod_nonneg _ h, Int.tmod_lt_of_pos _ hk⟩
theorem own_mask (x m : Int32) (hm : 0 ≤ m.toInt) : 0 ≤ (x &&& m).toInt ∧ (x &&& m).toInt ≤ m.toInt := by
  have h1 := (c_andS x m).2.2 hm
  refine ⟨h1, ?_⟩
  have q : (x &&& m).toBitVec.toNat ≤ m.toBitVec.toNat := by rw [Int32.toBitVec_and, BitVec.toNat_and]; exact Nat.and_le_right
  change 0 ≤ m.toBitVec.toInt at hm
  change 0 ≤ (x &&& m).toBitVec.toInt at h1
  show (x &&& m).toBitVec.toInt ≤ m.toBitVec.toInt
  rw [BitVec.toInt_eq_toNat_cond] at hm h1 ⊢
  rw [BitVec.toInt_eq_toNat_cond (x := m.toBitVec)]
  split at hm <;> split at h1 <;> split <;> omega
theorem own_nz {x : Int32} (h : x = 0 ∨ x = 1) : narrow .boolean (.int x) = .int x ∧ fits .boolean (.int x) = true := by rcases h with rfl | rfl <;> exact ⟨rfl, rfl⟩
theorem own_b01 {c : Prop} [Decidable c] {b : Int32} (h : b = if c then 0 else 1) : b = 0 ∨ b = 1 := by subst h; split <;> simp
theorem own_cat {v : Value} (h : v.isRef = true) : v.category = 1 := by cases v <;> first | rfl | cases h
theorem own_cI (x : Int32) : (Value.int x).category = 1 := rfl
theorem own_cJ (x : Int64) : (Value.long x).category = 2 := rfl
theorem own_cR (x : Addr) : (Value.ref x).category = 1 := rfl
theorem own_cN : Value.null.category = 1 := rfl
/-! ## own kit, wide form, part 1: objects of the law's own heap; some may only be read (tag 1: handed or new; tag 2: anywhere) -/
abbrev OFld := String × String × String × Value
abbrev OObj := Nat × ((String × List OFld) ⊕ (String × FieldType × List Value))
abbrev OHp := List (Addr × OObj)
abbrev OMode := Option (List (String × Nat) × Vm × Vm × Nat)
abbrev ob (C : String) (fs : List OFld) : OObj := (0, Sum.inl (C, fs))
abbrev ar (D : String) (ty : FieldType) (vs : List Value) : OObj := (0, Sum.inr (D, ty, vs))
abbrev ro (t : Nat) (o : OObj) : OObj := (t, o.2)
def OKo (Z : State) (a0 : Array Value) (h : Heap) (a : Addr) (C : String) (fs : List OFld) : Prop := Exa Z h a C ∧ ∀ f ∈ fs, Laid Z a0 C f.1 f.2.1 f.2.2.1 ∧ (∃ t, parseFieldDescriptor f.2.2.1 = some t) ∧ Fld Z h a f.1 f.2.1 f.2.2.1 f.2.2.2
def OKa (Z : State) (h : Heap) (a : Addr) (D : String) (ty : FieldType) (vs : List Value) : Prop := ∃ c : Cell, Arr Z h a c ty ∧ c.slots = vs.toArray ∧ vs.length < 2 ^ 31 ∧ (D = "" ∨ Z.vm.findClass D = some c.cls) ∧ ∀ v ∈ vs, fits ty v = true
def OK (Z : State) (a0 : Array Value) (h : Heap) (a : Addr) (o : OObj) : Prop := match o.2 with
  | .inl (C, fs) => OKo Z a0 h a C fs
  | .inr (D, ty, vs) => OKa Z h a D ty vs
def wsOf (F : OHp) : List Addr := (F.filter (fun x => x.2.1 == 0)).map (·.1)
def ksOf (F : OHp) : List Addr := (F.filter (fun x => x.2.1 == 0 || x.2.1 == 1)).map (·.1)
/-- what a callee gives back is writable, new or handed to it; or nothing else may be written -/
def own_tg (F F' G : OHp) : Prop := F'.all (fun x => x.2.1 == 0 || x.2.1 == 1) = true ∨ G.all (fun x => x.2.1 != 0) = true ∨ ∀ x ∈ F', x.2.1 = 0 ∨ x.2.1 = 1 ∨ x ∈ F
def SafeM (Z : State) (M : OMode) (h : Heap) (a : Addr) : Prop := match M with
  | none => True
  | some (EL, _, vm0, _) => Safe Z EL vm0 h a
def MInv (Z : State) (a0 : Array Value) (M : OMode) (hS h : Heap) : Prop := match M with
  | none => True
  | some (EL, vmS, vm0, k0) => EW Z a0 EL ∧ Z.Warmed39 vm0 ∧ CHr Z EL vmS hS vm0 h ∧ k0 ≤ h.size
def okE (Z : State) (a0 : Array Value) (M : OMode) (h0 hS : Heap) (F0 : OHp) (h : Heap) (x : Addr × OObj) : Prop :=
  OK Z a0 h x.1 x.2 ∧ (x.2.1 = 0 → h0.size ≤ x.1 ∧ (x.1 ∈ wsOf F0 ∨ hS.size ≤ x.1) ∧ SafeM Z M h x.1) ∧ (x.2.1 = 1 → x.1 ∈ ksOf F0 ∨ hS.size ≤ x.1)
def Hp (Z : State) (a0 : Array Value) (M : OMode) (h0 hS : Heap) (F0 : OHp) (h : Heap) (H : OHp) : Prop :=
  Ext h0 h ∧ Keep hS h (wsOf F0) ∧ MInv Z a0 M hS h ∧ (∀ (i : Nat) (x : Addr × OObj), H[i]? = some x → okE Z a0 M h0 hS F0 h x) ∧ ∀ (i j : Nat) (x y : Addr × OObj), H[i]? = some x → H[j]? = some y → x.1 = y.1 → (x.2.1 = 0 ∨ y.2.1 = 0) → i = j
section Own
variable {Z : State} {a0 : Array Value} {M : OMode} {h0 hS h h' : Heap} {F0 : OHp} {H : OHp} {a : Addr} {o : OObj} {C D O n d : String} {fs : List OFld} {ty : FieldType} {vs : List Value} {v : Value}
theorem OKa.exa (A : OKa Z h a D ty vs) (hD : D ≠ "") : Exa Z h a D := by
  obtain ⟨c, A, -, -, hf, -⟩ := A
  obtain ⟨-, k, hk, comp, hkind⟩ := A.2.1
  exact ⟨c, k, A.1, hf.resolve_left hD, hk, A.plain, fun q => by rw [hkind] at q; cases q⟩
theorem OK.lt (A : OK Z a0 h a o) : a < h.size := by
  obtain ⟨t, ⟨C, fs⟩ | ⟨D, ty, vs⟩⟩ := o
  · exact A.1.lt
  · obtain ⟨c, A, -⟩ := A; exact A.lt
theorem OK.ext (A : OK Z a0 h a o) (E : Ext h h') : OK Z a0 h' a o := by
  obtain ⟨t, ⟨C, fs⟩ | ⟨D, ty, vs⟩⟩ := o
  · exact ⟨A.1.ext E, fun f hf => ⟨(A.2 f hf).1, (A.2 f hf).2.1, (A.2 f hf).2.2.ext E⟩⟩
  · obtain ⟨c, A, r⟩ := A; exact ⟨c, A.ext E, r⟩
theorem OK.keep {us : List Addr} (A : OK Z a0 h a o) (K : Keep h h' us) (q : a ∉ us) : OK Z a0 h' a o := by
  obtain ⟨t, ⟨C, fs⟩ | ⟨D, ty, vs⟩⟩ := o
  · exact ⟨A.1.keep K, fun f hf => ⟨(A.2 f hf).1, (A.2 f hf).2.1, (A.2 f hf).2.2.keep K q⟩⟩
  · obtain ⟨c, A, r⟩ := A; exact ⟨c, ⟨K.2.1 a c A.1 q, A.2⟩, r⟩
theorem OKo.put {j : Nat} (A : OKo Z a0 h a C fs) {w : Value} (hj : fs[j]? = some (O, n, d, w)) (hn : ∀ i f, fs[i]? = some f → i ≠ j → f.2.1 ≠ n) (W : Wr h h' a (Jvm.RoadKit.slotOf Z O n d) v) : OKo Z a0 h' a C (fs.set j (O, n, d, v)) := by
  obtain ⟨E, F⟩ := A
  refine ⟨E.wr W, fun f hf => ?_⟩
  obtain ⟨i, hi⟩ := List.mem_iff_getElem?.mp hf
  obtain ⟨l1, ⟨t1, p1⟩, f1⟩ := F _ (List.mem_of_getElem? hj)
  rw [List.getElem?_set] at hi
  by_cases q : j = i
  · subst q
    have hlt : j < fs.length := (List.getElem?_eq_some_iff.mp hj).1
    simp only [if_true, hlt] at hi
    cases hi
    exact ⟨l1, ⟨t1, p1⟩, f1.same W⟩
  · rw [if_neg q] at hi
    obtain ⟨l2, ⟨t2, p2⟩, f2⟩ := F _ (List.mem_of_getElem? hi)
    exact ⟨l2, ⟨t2, p2⟩, f2.other W (Or.inr (slot_ne l2 l1 (hn i f hi (Ne.symm q)) p2 p1))⟩
theorem OKa.store {j : Nat} (A : OKa Z h a D ty vs) (W : Wr h h' a j v) (hv : fits ty v = true) : OKa Z h' a D ty (vs.set j v) := by
  obtain ⟨c, A, hs, hl, hf, hfit⟩ := A
  refine ⟨_, A.same W, ?_, by simpa using hl, hf, fun u hu => ?_⟩
  · simp [Cell.setSlot, hs]
  · rcases List.mem_or_eq_of_mem_set hu with q | q
    · exact hfit u q
    · exact q ▸ hv
theorem SafeM.new (q : h.size ≤ a) : SafeM Z M h a := by
  rcases M with _ | ⟨EL, vmS, vm0, k0⟩
  · trivial
  · exact Safe.new q
theorem SafeM.keep {us : List Addr} (I : MInv Z a0 M hS h) (K : Keep h h' us) (hs : ∀ x ∈ us, SafeM Z M h x) (S : SafeM Z M h a) : SafeM Z M h' a := by
  rcases M with _ | ⟨EL, vmS, vm0, k0⟩
  · trivial
  · exact Safe.keep K hs I.2.2.1.1 S
theorem MInv.keep {us : List Addr} (I : MInv Z a0 M hS h) (K : Keep h h' us) (hs : ∀ x ∈ us, SafeM Z M h x) : MInv Z a0 M hS h' := by
  rcases M with _ | ⟨EL, vmS, vm0, k0⟩
  · trivial
  · exact ⟨I.1, I.2.1, I.2.2.1.trans (CHr.keep K hs I.2.2.1.1), Nat.le_trans I.2.2.2 K.1⟩
theorem own_keepE (E : Ext h h') (us : List Addr) : Keep h h' us := (Keep.refl h us).ext E
theorem Hp.ne (A : Hp Z a0 M h0 hS F0 h H) {i j : Nat} {x y : Addr × OObj} (hi : H[i]? = some x) (hj : H[j]? = some y) (t : x.2.1 = 0 ∨ y.2.1 = 0) (q : i ≠ j) : x.1 ≠ y.1 := fun e => q (A.2.2.2.2 i j x y hi hj e t)
theorem Hp.at {i : Nat} (A : Hp Z a0 M h0 hS F0 h H) (hi : H[i]? = some (a, o)) : OK Z a0 h a o := (A.2.2.2.1 i _ hi).1
/-- one cell is written -/
theorem Hp.wr {i sl : Nat} {b b' : (String × List OFld) ⊕ (String × FieldType × List Value)} (A : Hp Z a0 M h0 hS F0 h H) (hi : H[i]? = some (a, 0, b)) (W : Wr h h' a sl v) (hO : OK Z a0 h' a (0, b')) : Hp Z a0 M h0 hS F0 h' (H.set i (a, 0, b')) := by
  obtain ⟨E, K, Mi, F, I⟩ := A
  have hge := (F i _ hi).2.1 rfl
  have hlt : i < H.length := (List.getElem?_eq_some_iff.mp hi).1
  have K2 := Keep.of_wr W
  have hsf : ∀ x ∈ [a], SafeM Z M h x := fun x hx => by cases List.mem_singleton.mp hx; exact hge.2.2
  have key : ∀ (k : Nat) (x : Addr × OObj), (H.set i (a, 0, b'))[k]? = some x → ∃ x0 : Addr × OObj, H[k]? = some x0 ∧ x0.1 = x.1 ∧ x0.2.1 = x.2.1 := fun k x hk => by
    rw [List.getElem?_set] at hk
    by_cases q : i = k
    · subst q; simp only [if_true, hlt] at hk; cases hk; exact ⟨_, hi, rfl, rfl⟩
    · rw [if_neg q] at hk; exact ⟨x, hk, rfl, rfl⟩
  refine ⟨?_, K.wr W hge.2.1, Mi.keep K2 hsf, fun k x hk => ?_, fun k1 k2 x y h1 h2 e t => ?_⟩
  · refine ⟨Nat.le_trans E.1 K2.1, fun x c hx => K2.2.1 x c (E.2 x c hx) fun q => ?_⟩
    have := (Array.getElem?_eq_some_iff.mp hx).1
    cases List.mem_singleton.mp q
    have := hge.1
    omega
  · rw [List.getElem?_set] at hk
    by_cases q : i = k
    · subst q; simp only [if_true, hlt] at hk; cases hk
      exact ⟨hO, fun _ => ⟨hge.1, hge.2.1, SafeM.keep Mi K2 hsf hge.2.2⟩, fun z => absurd z (by show ¬ (0 : Nat) = 1; decide)⟩
    · rw [if_neg q] at hk
      obtain ⟨r1, r2, r3⟩ := F k x hk
      refine ⟨r1.keep K2 fun z => ?_, fun z => ⟨(r2 z).1, (r2 z).2.1, SafeM.keep Mi K2 hsf (r2 z).2.2⟩, r3⟩
      exact q (I i k _ _ hi hk (List.mem_singleton.mp z).symm (Or.inl rfl))
  · obtain ⟨x0, e1, e2, e2'⟩ := key k1 x h1
    obtain ⟨y0, e3, e4, e4'⟩ := key k2 y h2
    exact I k1 k2 _ _ e1 e3 (by rw [e2, e4, e]) (by rw [e2', e4']; exact t)
/-- a new cell -/
theorem Hp.new {b : (String × List OFld) ⊕ (String × FieldType × List Value)} (A : Hp Z a0 M h0 hS F0 h H) (E' : Ext h h') (hO : OK Z a0 h' h.size (0, b)) : Hp Z a0 M h0 hS F0 h' (H ++ [(h.size, 0, b)]) := by
  obtain ⟨E, K, Mi, F, I⟩ := A
  have K2 := own_keepE E' []
  have hsf : ∀ x ∈ ([] : List Addr), SafeM Z M h x := fun x hx => nomatch hx
  have key : ∀ (k : Nat) (x : Addr × OObj), (H ++ [(h.size, (0, b))])[k]? = some x → (k < H.length ∧ H[k]? = some x) ∨ (k = H.length ∧ x = (h.size, 0, b)) := fun k x hk => by
    rw [List.getElem?_append] at hk
    split at hk
    · rename_i q; exact Or.inl ⟨q, hk⟩
    · rename_i q
      rcases Nat.eq_or_lt_of_le (Nat.le_of_not_lt q) with e | e
      · subst e; simp at hk; exact Or.inr ⟨rfl, hk.symm⟩
      · rw [List.getElem?_eq_none (by simp; omega)] at hk; cases hk
  refine ⟨⟨Nat.le_trans E.1 E'.1, fun x c hx => E'.2 x c (E.2 x c hx)⟩, K.ext E', Mi.keep K2 hsf, fun k x hk => ?_, fun k1 k2 x y h1 h2 e t => ?_⟩
  · rcases key k x hk with ⟨-, q⟩ | ⟨-, rfl⟩
    · obtain ⟨r1, r2, r3⟩ := F k x q
      exact ⟨r1.ext E', fun z => ⟨(r2 z).1, (r2 z).2.1, SafeM.keep Mi K2 hsf (r2 z).2.2⟩, r3⟩
    · exact ⟨hO, fun _ => ⟨E.1, Or.inr K.1, SafeM.keep Mi K2 hsf (SafeM.new (Nat.le_refl _))⟩, fun z => absurd z (by show ¬ (0 : Nat) = 1; decide)⟩
  · rcases key k1 x h1 with ⟨q1, r1⟩ | ⟨q1, rfl⟩ <;> rcases key k2 y h2 with ⟨q2, r2⟩ | ⟨q2, rfl⟩
    · exact I _ _ _ _ r1 r2 e t
    · exact absurd e (Nat.ne_of_lt (F _ _ r1).1.lt)
    · exact absurd e.symm (Nat.ne_of_lt (F _ _ r2).1.lt)
    · rw [q1, q2]
theorem own_pick {H G : OHp} {ix : List Nat} (hG : ix.map (fun i => H[i]?) = G.map some) : ∀ (k : Nat) (x : Addr × OObj), G[k]? = some x → ∃ i : Nat, ix[k]? = some i ∧ H[i]? = some x := fun k x hk => by
  have q : (G.map some)[k]? = some (some x) := by rw [List.getElem?_map, hk]; rfl
  rw [← hG, List.getElem?_map] at q
  cases hi : ix[k]? with
  | none => rw [hi] at q; cases q
  | some i => rw [hi] at q; exact ⟨i, rfl, Option.some.inj q⟩
theorem own_ixinj {ix : List Nat} (hN : ix.Nodup) {k1 k2 i : Nat} (p1 : ix[k1]? = some i) (p2 : ix[k2]? = some i) : k1 = k2 := by
  have e1 := (List.getElem?_eq_some_iff.mp p1)
  have e2 := (List.getElem?_eq_some_iff.mp p2)
  obtain ⟨l1, e1⟩ := e1
  obtain ⟨l2, e2⟩ := e2
  exact (List.getElem_inj hN).mp (e1.trans e2.symm)
/-- fewer, or in another order -/
theorem Hp.sub {G : OHp} (ix : List Nat) (A : Hp Z a0 M h0 hS F0 h H) (hG : ix.map (fun i => H[i]?) = G.map some) (hN : ix.Nodup) : Hp Z a0 M h0 hS F0 h G := by
  have key := own_pick hG
  refine ⟨A.1, A.2.1, A.2.2.1, fun k x hk => ?_, fun k1 k2 x y h1 h2 e t => ?_⟩
  · obtain ⟨i, -, hi⟩ := key k x hk; exact A.2.2.2.1 i x hi
  · obtain ⟨i, p1, q1⟩ := key k1 x h1
    obtain ⟨j, p2, q2⟩ := key k2 y h2
    cases A.2.2.2.2 i j x y q1 q2 e t
    exact own_ixinj hN p1 p2
theorem own_wsOf {F : OHp} {x : Addr × OObj} (hx : x ∈ F) (t : x.2.1 = 0) : x.1 ∈ wsOf F := List.mem_map_of_mem (List.mem_filter.mpr ⟨hx, by simp [t]⟩)
theorem own_ksOf {F : OHp} {x : Addr × OObj} (hx : x ∈ F) (t : x.2.1 = 0 ∨ x.2.1 = 1) : x.1 ∈ ksOf F := List.mem_map_of_mem (List.mem_filter.mpr ⟨hx, by rcases t with t | t <;> simp [t]⟩)
theorem own_wsOf_e {F : OHp} {a : Addr} (h : a ∈ wsOf F) : ∃ x ∈ F, x.1 = a ∧ x.2.1 = 0 := by
  obtain ⟨x, hx, rfl⟩ := List.mem_map.mp h
  obtain ⟨h1, h2⟩ := List.mem_filter.mp hx
  exact ⟨x, h1, rfl, by simpa using h2⟩
theorem own_ksOf_e {F : OHp} {a : Addr} (h : a ∈ ksOf F) : ∃ x ∈ F, x.1 = a ∧ (x.2.1 = 0 ∨ x.2.1 = 1) := by
  obtain ⟨x, hx, rfl⟩ := List.mem_map.mp h
  obtain ⟨h1, h2⟩ := List.mem_filter.mp hx
  exact ⟨x, h1, rfl, by simpa using h2⟩
/-- what a callee is handed -/
theorem Hp.enter {F : OHp} (A : Hp Z a0 M h0 hS F0 h F) : Hp Z a0 none h0 h F h F :=
  ⟨A.1, Keep.refl _ _, trivial, fun i x hi => ⟨(A.2.2.2.1 i x hi).1, fun t => ⟨((A.2.2.2.1 i x hi).2.1 t).1, Or.inl (own_wsOf (List.mem_of_getElem? hi) t), trivial⟩, fun t => Or.inl (own_ksOf (List.mem_of_getElem? hi) (Or.inr t))⟩, A.2.2.2.2⟩
/-- behind a call: the callee's cells, and those that it was not handed (the addresses alone) -/
theorem own_cross {F F' G : OHp} {ix rx : List Nat} (A : Hp Z a0 M h0 hS F0 h H) (hF : ix.map (fun i => H[i]?) = F.map some) (hG : rx.map (fun i => H[i]?) = G.map some) (hN : (ix ++ rx).Nodup)
    (h1 : ∀ x ∈ F', x.2.1 = 0 → x.1 ∈ wsOf F ∨ h.size ≤ x.1) (h2 : ∀ x ∈ F', x.2.1 = 1 → x.1 ∈ ksOf F ∨ h.size ≤ x.1) (hT : own_tg F F' G) :
    ∀ x ∈ F', ∀ y ∈ G, x.2.1 = 0 ∨ y.2.1 = 0 → x.1 ≠ y.1 := by
  intro x hx y hy t e
  have N := List.nodup_append.mp hN
  obtain ⟨k2, g2⟩ := List.mem_iff_getElem?.mp hy
  obtain ⟨j, pj, hj⟩ := own_pick hG k2 y g2
  have hjr : j ∈ rx := List.mem_of_getElem? pj
  have hlt : y.1 < h.size := (A.2.2.2.1 j y hj).1.lt
  have fin : ∀ z ∈ F, z.1 = x.1 → (z.2.1 = 0 ∨ y.2.1 = 0) → False := fun z hz e2 t2 => by
    obtain ⟨k1, g1⟩ := List.mem_iff_getElem?.mp hz
    obtain ⟨i, pi, hi⟩ := own_pick hF k1 z g1
    have := A.2.2.2.2 i j z y hi hj (e2.trans e) t2
    subst this
    exact N.2.2 i (List.mem_of_getElem? pi) i hjr rfl
  by_cases t0 : x.2.1 = 0
  · rcases h1 x hx t0 with q | q
    · obtain ⟨z, hz, e2, tz⟩ := own_wsOf_e q
      exact fin z hz e2 (Or.inl tz)
    · exact absurd hlt (Nat.not_lt.mpr (e ▸ q))
  · have ty : y.2.1 = 0 := t.resolve_left t0
    rcases hT with hT | hT | hT
    · have q := List.all_eq_true.mp hT x hx
      have t1 : x.2.1 = 1 := by simpa [t0] using q
      rcases h2 x hx t1 with q | q
      · obtain ⟨z, hz, e2, -⟩ := own_ksOf_e q
        exact fin z hz e2 (Or.inr ty)
      · exact absurd hlt (Nat.not_lt.mpr (e ▸ q))
    · have q := List.all_eq_true.mp hT y hy
      simp [ty] at q
    · rcases hT x hx with q | q | q
      · exact t0 q
      · rcases h2 x hx q with q | q
        · obtain ⟨z, hz, e2, -⟩ := own_ksOf_e q
          exact fin z hz e2 (Or.inr ty)
        · exact absurd hlt (Nat.not_lt.mpr (e ▸ q))
      · exact fin x q rfl (Or.inr ty)
theorem own_wsSafe {F : OHp} {ix : List Nat} (A : Hp Z a0 M h0 hS F0 h H) (hF : ix.map (fun i => H[i]?) = F.map some) : ∀ x ∈ wsOf F, SafeM Z M h x ∧ h0.size ≤ x ∧ (x ∈ wsOf F0 ∨ hS.size ≤ x) := fun a ha => by
  obtain ⟨z, hz, rfl, tz⟩ := own_wsOf_e ha
  obtain ⟨k1, g1⟩ := List.mem_iff_getElem?.mp hz
  obtain ⟨i, pi, hi⟩ := own_pick hF k1 z g1
  obtain ⟨q1, q2, q3⟩ := (A.2.2.2.1 i z hi).2.1 tz
  exact ⟨q3, q1, q2⟩
theorem own_ks {F : OHp} {ix : List Nat} (A : Hp Z a0 M h0 hS F0 h H) (hF : ix.map (fun i => H[i]?) = F.map some) : ∀ x ∈ ksOf F, x ∈ ksOf F0 ∨ hS.size ≤ x := fun a ha => by
  obtain ⟨z, hz, rfl, tz⟩ := own_ksOf_e ha
  obtain ⟨k1, g1⟩ := List.mem_iff_getElem?.mp hz
  obtain ⟨i, pi, hi⟩ := own_pick hF k1 z g1
  rcases tz with tz | tz
  · rcases ((A.2.2.2.1 i z hi).2.1 tz).2.1 with q | q
    · obtain ⟨w, hw, e, t⟩ := own_wsOf_e q
      exact Or.inl (e ▸ own_ksOf hw (Or.inl t))
    · exact Or.inr q
  · exact (A.2.2.2.1 i z hi).2.2 tz
/-- behind a call by a callee that loads no constant -/
theorem Hp.back {F F' G : OHp} {ix rx : List Nat} (A : Hp Z a0 M h0 hS F0 h H) (hF : ix.map (fun i => H[i]?) = F.map some) (hG : rx.map (fun i => H[i]?) = G.map some) (hN : (ix ++ rx).Nodup) (B : Hp Z a0 none h0 h F h' F')
    (hT : own_tg F F' G) : Hp Z a0 M h0 hS F0 h' (F' ++ G) := by
  have N := List.nodup_append.mp hN
  have AG := A.sub rx hG N.2.1
  have ws := own_wsSafe A hF
  have hsf : ∀ x ∈ wsOf F, SafeM Z M h x := fun x hx => (ws x hx).1
  have cr := own_cross (F' := F') A hF hG hN (fun x hx t => by obtain ⟨k, hk⟩ := List.mem_iff_getElem?.mp hx; exact ((B.2.2.2.1 k x hk).2.1 t).2.1) (fun x hx t => by obtain ⟨k, hk⟩ := List.mem_iff_getElem?.mp hx; exact (B.2.2.2.1 k x hk).2.2 t) hT
  have key : ∀ (k : Nat) (x : Addr × OObj), (F' ++ G)[k]? = some x → (k < F'.length ∧ F'[k]? = some x) ∨ (F'.length ≤ k ∧ G[k - F'.length]? = some x) := fun k x hk => by
    rw [List.getElem?_append] at hk
    split at hk
    · rename_i q; exact Or.inl ⟨q, hk⟩
    · rename_i q; exact Or.inr ⟨Nat.le_of_not_lt q, hk⟩
  refine ⟨B.1, A.2.1.trans B.2.1 fun x hx => (ws x hx).2.2, A.2.2.1.keep B.2.1 hsf, fun k x hk => ?_, fun k1 k2 x y g1 g2 e t => ?_⟩
  · rcases key k x hk with ⟨-, q⟩ | ⟨-, q⟩
    · obtain ⟨r1, r2, r3⟩ := B.2.2.2.1 k x q
      refine ⟨r1, fun t => ⟨(r2 t).1, ?_, ?_⟩, fun t => (r3 t).elim (own_ks A hF _) fun z => Or.inr (Nat.le_trans A.2.1.1 z)⟩
      · exact (r2 t).2.1.elim (fun z => (ws _ z).2.2) fun z => Or.inr (Nat.le_trans A.2.1.1 z)
      · exact (r2 t).2.1.elim (fun z => SafeM.keep A.2.2.1 B.2.1 hsf (hsf _ z)) fun z => SafeM.keep A.2.2.1 B.2.1 hsf (SafeM.new z)
    · obtain ⟨r1, r2, r3⟩ := AG.2.2.2.1 _ x q
      refine ⟨r1.keep B.2.1 fun z => ?_, fun t => ⟨(r2 t).1, (r2 t).2.1, SafeM.keep A.2.2.1 B.2.1 hsf (r2 t).2.2⟩, r3⟩
      obtain ⟨w, hw, e, tw⟩ := own_wsOf_e z
      obtain ⟨k1, p1⟩ := List.mem_iff_getElem?.mp hw
      obtain ⟨i, pi, hi⟩ := own_pick hF k1 w p1
      obtain ⟨j, pj, hj⟩ := own_pick hG _ x q
      have := A.2.2.2.2 i j w x hi hj e (Or.inl tw)
      subst this
      exact N.2.2 i (List.mem_of_getElem? pi) i (List.mem_of_getElem? pj) rfl
  · rcases key k1 x g1 with ⟨l1, q1⟩ | ⟨l1, q1⟩ <;> rcases key k2 y g2 with ⟨l2, q2⟩ | ⟨l2, q2⟩
    · exact B.2.2.2.2 _ _ _ _ q1 q2 e t
    · exact absurd e (cr x (List.mem_of_getElem? q1) y (List.mem_of_getElem? q2) t)
    · exact absurd e.symm (cr y (List.mem_of_getElem? q2) x (List.mem_of_getElem? q1) t.symm)
    · have := AG.2.2.2.2 _ _ _ _ q1 q2 e t; omega
theorem Hp.start (s : State) (a0 : Array Value) : Hp s a0 none s.heap s.heap [] s.heap [] :=
  ⟨⟨Nat.le_refl _, fun _ _ q => q⟩, Keep.refl _ _, trivial, fun i x q => by simp at q, fun i j x y q => by simp at q⟩
end Own
/-! ## own kit, part 2: blocks of plain instructions -/
abbrev OSt := Option (Array Slot × List Value)
def oLen (n k : Nat) (x : OSt) : OSt := if n = k then x else none
def oLdA (Ls : Array Slot) (k : Nat) (st : List Value) : OSt := match Ls[k]? with
  | some (.val (.ref a)) => some (Ls, .ref a :: st)
  | some (.val .null) => some (Ls, .null :: st)
  | _ => none
def oLdI (Ls : Array Slot) (k : Nat) (st : List Value) : OSt := match Ls[k]? with
  | some (.val (.int v)) => some (Ls, .int v :: st)
  | _ => none
def oLdJ (Ls : Array Slot) (k : Nat) (st : List Value) : OSt := match Ls[k]? with
  | some (.val (.long v)) => some (Ls, .long v :: st)
  | _ => none
def oStI (Ls : Array Slot) (k : Nat) (st : List Value) : OSt := match st with
  | .int x :: r => match storeLocals Ls k (.int x) with
    | some l => some (l, r)
    | none => none
  | _ => none
def oStJ (Ls : Array Slot) (k : Nat) (st : List Value) : OSt := match st with
  | .long x :: r => match storeLocals Ls k (.long x) with
    | some l => some (l, r)
    | none => none
  | _ => none
def oStA (Ls : Array Slot) (k : Nat) (st : List Value) : OSt := match st with
  | .ref x :: r => match storeLocals Ls k (.ref x) with
    | some l => some (l, r)
    | none => none
  | .null :: r => match storeLocals Ls k .null with
    | some l => some (l, r)
    | none => none
  | _ => none
def oInc (Ls : Array Slot) (k : Nat) (c : Int) (st : List Value) : OSt := match Ls[k]? with
  | some (.val (.int x)) => match storeLocals Ls k (.int (x + Int32.ofInt c)) with
    | some l => some (l, st)
    | none => none
  | _ => none
def oII (Ls : Array Slot) (st : List Value) (f : Int32 → Int32 → Int32) : OSt := match st with
  | .int y :: .int x :: r => some (Ls, .int (f x y) :: r)
  | _ => none
def oIIz (Ls : Array Slot) (st : List Value) (f : Int32 → Int32 → Int32) : OSt := match st with
  | .int y :: .int x :: r => if y ≠ 0 then some (Ls, .int (f x y) :: r) else none
  | _ => none
def oJJ (Ls : Array Slot) (st : List Value) (f : Int64 → Int64 → Value) : OSt := match st with
  | .long y :: .long x :: r => some (Ls, f x y :: r)
  | _ => none
def oJI (Ls : Array Slot) (st : List Value) (f : Int64 → Int32 → Int64) : OSt := match st with
  | .int y :: .long x :: r => some (Ls, .long (f x y) :: r)
  | _ => none
def oI (Ls : Array Slot) (st : List Value) (f : Int32 → Value) : OSt := match st with
  | .int x :: r => some (Ls, f x :: r)
  | _ => none
def oJ (Ls : Array Slot) (st : List Value) (f : Int64 → Value) : OSt := match st with
  | .long x :: r => some (Ls, f x :: r)
  | _ => none
def oOne : Value → Bool
  | .int _ => true
  | .ref _ => true
  | .null => true
  | _ => false
def oDup (Ls : Array Slot) (st : List Value) : OSt := match st with
  | x :: r => if oOne x = true then some (Ls, x :: x :: r) else none
  | _ => none
def oPop (Ls : Array Slot) (st : List Value) : OSt := match st with
  | x :: r => if oOne x = true then some (Ls, r) else none
  | _ => none
def oDupX (Ls : Array Slot) (st : List Value) : OSt := match st with
  | x :: y :: r => if oOne x = true then (if oOne y = true then some (Ls, x :: y :: x :: r) else none) else none
  | _ => none
abbrev oUshr (x y : Int32) : Int32 := (x.toUInt32 >>> (y &&& 31).toUInt32).toInt32
abbrev oLushr (x : Int64) (y : Int32) : Int64 := (x.toUInt64 >>> (y &&& 0x3f).toInt64.toUInt64).toInt64
abbrev oI2c (x : Int32) : Int32 := x.toUInt32.toUInt16.toUInt32.toInt32
abbrev oI2b (x : Int32) : Int32 := x.toInt8.toInt32
abbrev oLcmp (x y : Int64) : Int32 := if x > y then 1 else if x = y then 0 else -1
def oEx (i : Instr) (n : Nat) (Ls : Array Slot) (st : List Value) : OSt := match i with
  | .aload_n k => oLen n 1 (oLdA Ls k.val st)
  | .aload k => oLen n 2 (oLdA Ls k st)
  | .iload_n k => oLen n 1 (oLdI Ls k.val st)
  | .iload k => oLen n 2 (oLdI Ls k st)
  | .lload_n k => oLen n 1 (oLdJ Ls k.val st)
  | .lload k => oLen n 2 (oLdJ Ls k st)
  | .istore_n k => oLen n 1 (oStI Ls k.val st)
  | .istore k => oLen n 2 (oStI Ls k st)
  | .lstore_n k => oLen n 1 (oStJ Ls k.val st)
  | .lstore k => oLen n 2 (oStJ Ls k st)
  | .astore_n k => oLen n 1 (oStA Ls k.val st)
  | .astore k => oLen n 2 (oStA Ls k st)
  | .iinc k c => oLen n 3 (oInc Ls k c st)
  | .iconst v => oLen n 1 (some (Ls, .int (Int32.ofInt v) :: st))
  | .lconst v => oLen n 1 (some (Ls, .long (Int64.ofNat v) :: st))
  | .bipush v => oLen n 2 (some (Ls, .int (Int8.ofInt v).toInt32 :: st))
  | .sipush v => oLen n 3 (some (Ls, .int (Int16.ofInt v).toInt32 :: st))
  | .aconst_null => oLen n 1 (some (Ls, .null :: st))
  | .iadd => oLen n 1 (oII Ls st (fun x y => x + y))
  | .isub => oLen n 1 (oII Ls st (fun x y => x - y))
  | .imul => oLen n 1 (oII Ls st (fun x y => x * y))
  | .iand => oLen n 1 (oII Ls st (fun x y => x &&& y))
  | .ior => oLen n 1 (oII Ls st (fun x y => x ||| y))
  | .ixor => oLen n 1 (oII Ls st (fun x y => x ^^^ y))
  | .ishl => oLen n 1 (oII Ls st (fun x y => x <<< (y &&& 31)))
  | .ishr => oLen n 1 (oII Ls st (fun x y => x >>> (y &&& 31)))
  | .iushr => oLen n 1 (oII Ls st (fun x y => oUshr x y))
  | .irem => oLen n 1 (oIIz Ls st (fun x y => x % y))
  | .idiv => oLen n 1 (oIIz Ls st (fun x y => x / y))
  | .ineg => oLen n 1 (oI Ls st (fun x => .int (-x)))
  | .ladd => oLen n 1 (oJJ Ls st (fun x y => .long (x + y)))
  | .lsub => oLen n 1 (oJJ Ls st (fun x y => .long (x - y)))
  | .lmul => oLen n 1 (oJJ Ls st (fun x y => .long (x * y)))
  | .land => oLen n 1 (oJJ Ls st (fun x y => .long (x &&& y)))
  | .lcmp => oLen n 1 (oJJ Ls st (fun x y => .int (oLcmp x y)))
  | .lushr => oLen n 1 (oJI Ls st (fun x y => oLushr x y))
  | .l2i => oLen n 1 (oJ Ls st (fun x => .int x.toInt32))
  | .i2l => oLen n 1 (oI Ls st (fun x => .long x.toInt64))
  | .i2b => oLen n 1 (oI Ls st (fun x => .int (oI2b x)))
  | .i2c => oLen n 1 (oI Ls st (fun x => .int (oI2c x)))
  | .dup => oLen n 1 (oDup Ls st)
  | .pop => oLen n 1 (oPop Ls st)
  | .dup_x1 => oLen n 1 (oDupX Ls st)
  | _ => none
def oRun : List (Instr × Nat) → Array Slot → List Value → OSt
  | [], Ls, st => some (Ls, st)
  | i :: r, Ls, st => match oEx i.1 i.2 Ls st with
    | some x => oRun r x.1 x.2
    | none => none
def oEnd (pc : Nat) : List (Instr × Nat) → Nat
  | [] => pc
  | i :: r => oEnd (pc + i.2) r
def oAt (code : ByteArray) (pc : Nat) (i : Instr × Nat) : Bool := match decode code pc with
  | .ok j => decide (j = i)
  | .error _ => false
def oBlk (code : ByteArray) (pc : Nat) : List (Instr × Nat) → Bool
  | [] => true
  | i :: r => oAt code pc i && oBlk code (pc + i.2) r
theorem oAt.dec {code : ByteArray} {pc : Nat} {i : Instr × Nat} (h : oAt code pc i = true) : decode code pc = .ok i := by
  unfold oAt at h
  split at h
  · rename_i j e; rw [e, of_decide_eq_true h]
  · cases h
theorem oLen.e {n k : Nat} {x : OSt} {y : Array Slot × List Value} (h : oLen n k x = some y) : n = k ∧ x = some y := by
  unfold oLen at h; split at h
  · exact ⟨by assumption, h⟩
  · cases h
theorem oOne.cat {x : Value} (h : oOne x = true) : x.category = 1 := by cases x <;> simp [oOne, Value.category] at h ⊢
section Sound
variable {tb : Tables} [Ours tb] {e : Env} {below : List Frame} {T target : State} {m : MethodId} {c : Code} {pc : Nat} {Ls L' : Array Slot} {st S' : List Value}
set_option maxHeartbeats 4000000 in
theorem oEx.sound {i : Instr} {n : Nat} (h : At T m c below) (hx : tb.exec = Jvm.exec) (hd : decode c.code pc = .ok (i, n)) (he : oEx i n Ls st = some (L', S'))
    (hr : Steps tb e below (T.setTop (mkF m (pc + n) L' S')) target) : Steps tb e below (T.setTop (mkF m pc Ls st)) target := by
  unfold oEx at he
  split at he <;> first | (cases he; done) | skip
  all_goals (obtain ⟨rfl, he⟩ := oLen.e he)
  · unfold oLdA at he; split at he <;> first | (cases he; done) | skip
    · rename_i q; cases he; exact XS.aloadN h hx rfl hd q rfl hr
    · rename_i q; cases he; exact XS.aloadN h hx rfl hd q rfl hr
  · unfold oLdA at he; split at he <;> first | (cases he; done) | skip
    · rename_i q; cases he; exact XS.aload h hx rfl hd q rfl hr
    · rename_i q; cases he; exact XS.aload h hx rfl hd q rfl hr
  · unfold oLdI at he; split at he <;> first | (cases he; done) | skip
    rename_i q; cases he; exact XS.iloadN h hx rfl hd q hr
  · unfold oLdI at he; split at he <;> first | (cases he; done) | skip
    rename_i q; cases he; exact XS.iload h hx rfl hd q hr
  · unfold oLdJ at he; split at he <;> first | (cases he; done) | skip
    rename_i q; cases he; exact XS.lloadN h hx rfl hd q hr
  · unfold oLdJ at he; split at he <;> first | (cases he; done) | skip
    rename_i q; cases he; exact XS.lload h hx rfl hd q hr
  · unfold oStI at he; split at he <;> first | (cases he; done) | skip
    split at he <;> first | (cases he; done) | skip
    rename_i q; cases he; exact XS.istoreN h hx rfl hd rfl q hr
  · unfold oStI at he; split at he <;> first | (cases he; done) | skip
    split at he <;> first | (cases he; done) | skip
    rename_i q; cases he; exact XS.istore h hx rfl hd rfl q hr
  · unfold oStJ at he; split at he <;> first | (cases he; done) | skip
    split at he <;> first | (cases he; done) | skip
    rename_i q; cases he; exact XS.lstoreN h hx rfl hd rfl q hr
  · unfold oStJ at he; split at he <;> first | (cases he; done) | skip
    split at he <;> first | (cases he; done) | skip
    rename_i q; cases he; exact XS.lstore h hx rfl hd rfl q hr
  · unfold oStA at he; split at he <;> first | (cases he; done) | skip
    all_goals (split at he <;> first | (cases he; done) | skip)
    all_goals (rename_i q; cases he; exact XS.astoreN h hx rfl hd rfl rfl q hr)
  · unfold oStA at he; split at he <;> first | (cases he; done) | skip
    all_goals (split at he <;> first | (cases he; done) | skip)
    all_goals (rename_i q; cases he; exact XS.astore h hx rfl hd rfl rfl q hr)
  · unfold oInc at he; split at he <;> first | (cases he; done) | skip
    rename_i q0
    split at he <;> first | (cases he; done) | skip
    rename_i q; cases he; exact XS.iinc h hx rfl hd q0 q hr
  · cases he; exact XS.iconst h hx rfl hd hr
  · cases he; exact XS.lconst h hx rfl hd hr
  · cases he; exact XS.bipush h hx rfl hd hr
  · cases he; exact XS.sipush h hx rfl hd hr
  · cases he; exact XS.aconstNull h hx rfl hd hr
  · unfold oII at he; split at he <;> first | (cases he; done) | skip
    cases he; exact XS.iadd h hx rfl hd rfl hr
  · unfold oII at he; split at he <;> first | (cases he; done) | skip
    cases he; exact XS.isub h hx rfl hd rfl hr
  · unfold oII at he; split at he <;> first | (cases he; done) | skip
    cases he; exact XS.imul h hx rfl hd rfl hr
  · unfold oII at he; split at he <;> first | (cases he; done) | skip
    cases he; exact XS.iand h hx rfl hd rfl hr
  · unfold oII at he; split at he <;> first | (cases he; done) | skip
    cases he; exact XS.ior h hx rfl hd rfl hr
  · unfold oII at he; split at he <;> first | (cases he; done) | skip
    cases he; exact XS.ixor h hx rfl hd rfl hr
  · unfold oII at he; split at he <;> first | (cases he; done) | skip
    cases he; exact XS.ishl h hx rfl hd rfl hr
  · unfold oII at he; split at he <;> first | (cases he; done) | skip
    cases he; exact XS.ishr h hx rfl hd rfl hr
  · unfold oII at he; split at he <;> first | (cases he; done) | skip
    cases he; exact XS.iushr h hx rfl hd rfl hr
  · unfold oIIz at he; split at he <;> first | (cases he; done) | skip
    split at he <;> first | (cases he; done) | skip
    rename_i hy
    cases he
    refine XS.irem h hx rfl hd rfl hy ?_
    rw [irem_eq_mod]; exact hr
  · unfold oIIz at he; split at he <;> first | (cases he; done) | skip
    split at he <;> first | (cases he; done) | skip
    rename_i hy
    cases he; exact XS.idiv h hx rfl hd rfl hy hr
  · unfold oI at he; split at he <;> first | (cases he; done) | skip
    cases he; exact XS.ineg h hx rfl hd rfl hr
  · unfold oJJ at he; split at he <;> first | (cases he; done) | skip
    cases he; exact XS.ladd h hx rfl hd rfl hr
  · unfold oJJ at he; split at he <;> first | (cases he; done) | skip
    cases he; exact XS.lsub h hx rfl hd rfl hr
  · unfold oJJ at he; split at he <;> first | (cases he; done) | skip
    cases he; exact XS.lmul h hx rfl hd rfl hr
  · unfold oJJ at he; split at he <;> first | (cases he; done) | skip
    cases he; exact XS.land h hx rfl hd rfl hr
  · unfold oJJ at he; split at he <;> first | (cases he; done) | skip
    cases he; exact XS.lcmp h hx rfl hd rfl hr
  · unfold oJI at he; split at he <;> first | (cases he; done) | skip
    cases he; exact XS.lushr h hx rfl hd rfl hr
  · unfold oJ at he; split at he <;> first | (cases he; done) | skip
    cases he; exact XS.l2i h hx rfl hd rfl hr
  · unfold oI at he; split at he <;> first | (cases he; done) | skip
    cases he; exact XS.i2l h hx rfl hd rfl hr
  · unfold oI at he; split at he <;> first | (cases he; done) | skip
    cases he; exact XS.i2b h hx rfl hd rfl hr
  · unfold oI at he; split at he <;> first | (cases he; done) | skip
    cases he; exact XS.i2c h hx rfl hd rfl hr
  · unfold oDup at he; split at he <;> first | (cases he; done) | skip
    split at he <;> first | (cases he; done) | skip
    rename_i q; cases he; exact XS.dup h hx rfl hd rfl (oOne.cat q) hr
  · unfold oPop at he; split at he <;> first | (cases he; done) | skip
    split at he <;> first | (cases he; done) | skip
    rename_i q; cases he; exact XS.pop h hx rfl hd rfl (oOne.cat q) hr
  · unfold oDupX at he; split at he <;> first | (cases he; done) | skip
    split at he <;> first | (cases he; done) | skip
    rename_i q1
    split at he <;> first | (cases he; done) | skip
    rename_i q2; cases he; exact XS.dupX1 h hx rfl hd rfl (oOne.cat q1) (oOne.cat q2) hr
theorem oRun.sound (is : List (Instr × Nat)) : ∀ {pc : Nat} {Ls : Array Slot} {st : List Value}, At T m c below → tb.exec = Jvm.exec → oBlk c.code pc is = true → oRun is Ls st = some (L', S') →
    Steps tb e below (T.setTop (mkF m (oEnd pc is) L' S')) target → Steps tb e below (T.setTop (mkF m pc Ls st)) target := by
  induction is with
  | nil => intro pc Ls st h hx hb he hr; cases he; exact hr
  | cons i r ih =>
    intro pc Ls st h hx hb he hr
    simp only [oBlk, Bool.and_eq_true] at hb
    simp only [oRun] at he
    split at he
    · rename_i x q
      exact oEx.sound h hx (oAt.dec hb.1) q (ih h hx hb.2 he hr)
    · cases he
end Sound
/-! ## own kit, wide form, part 3: from a frame the run goes to its return; in mode 'some' String constants may have been loaded since the start s0 -/
def Cx (p : Program) (s : State) (m : MethodId) (meth : Method) (c : Code) (Z : State) (y : MethodName) (code : ByteArray) (maxL : Nat) (ret : Option FieldType) : Prop :=
  p.tables.exec = Jvm.exec ∧ c.code = code ∧ c.maxLocals = maxL ∧ s.vm.findClass y.cls = some m.cls ∧ meth.name = y.name ∧ meth.sig.returnType = ret ∧ meth.locks = false ∧ Z.Warmed39 s.vm
def MS (M : OMode) (s0 s : State) : Prop := match M with
  | none => s = s0
  | some (_, _, vm0, k0) => s = s0.setVm vm0 ∧ s0.Since vm0 k0
def FinM (Z : State) (a0 : Array Value) (M : OMode) (s0 : State) (h0 hS : Heap) (F0 : OHp) (rc rs : Nat) (Q : Option Value → OHp → Prop) (v : Option Value) (L : List Loc) (o : Outcome) (t : State) : Prop := match M with
  | none => (∃ F', Q v F' ∧ Hp Z a0 none h0 hS F0 t.heap F') ∧ FrameEnd s0 o t L rc rs
  | some (EL, vmS, _, _) => (∃ F' k1, Q v F' ∧ Hp Z a0 (some (EL, vmS, t.vm, k1)) h0 hS F0 t.heap F') ∧ ReturnedEndW s0 o t L rc rs
def Ends (p : Program) (e : Env) (s0 : State) (below : List Frame) (Z : State) (a0 : Array Value) (M : OMode) (h0 hS : Heap) (F0 : OHp) (rc rs : Nat) (Q : Option Value → OHp → Prop) (T : State) (g : JFrame) : Prop :=
  ∃ t o, Steps p.tables e below (T.setTop g) t ∧ t.status = .running ∧ Ended t below o ∧ ∃ v L, o = .returned v ∧ Fr h0.size L ∧ FinM Z a0 M s0 h0 hS F0 rc rs Q v L o t
def Goes (p : Program) (l : Launch) (e : Env) (R : Room) (s : State) (m : MethodId) (args : Array Value) (below : List Frame) (meth : Method) (c : Code) (Z : State) (a0 : Array Value) (M : OMode) (s0 : State) (h0 hS : Heap) (F0 : OHp) (rc rs : Nat) (Q : Option Value → OHp → Prop) (H : OHp) (cells slots : Nat) (g : JFrame) : Prop :=
  ∀ (T : State) (locs : List Loc), MS M s0 s → Stand p l e R s m args below meth c T locs cells slots → Fr h0.size locs → Hp Z a0 M h0 hS F0 T.heap H → Ends p e s0 below Z a0 M h0 hS F0 rc rs Q T g
def Does (l : Launch) (Z : State) (a0 : Array Value) (h0 : Heap) (y : MethodName) (code : ByteArray) (maxL : Nat) (ret : Option FieldType) (rm : Room) (as' : Array Value) (F : OHp) (Q : Option Value → OHp → Prop) : Prop :=
  ∀ (ws : List Jvm.Cond) (h : Heap), Hp Z a0 none h0 h F h F → MetFree l y (head1 (Jvm.Cond.code y code maxL ret :: ws) rm) (fun a U => a = as' ∧ Z.Warmed39 U.vm ∧ U.heap = h) (fun _ _ _ _ _ => True)
    (fun _ U o U' => ∃ v L, o = .returned v ∧ (Fr h0.size L ∧ ∃ F', Q v F' ∧ Hp Z a0 none h0 h F U'.heap F') ∧ FrameEnd U o U' L rm.cells rm.slots)
/-- a method that may load String constants of EL -/
def DoesW (l : Launch) (Z : State) (a0 : Array Value) (EL : List (String × Nat)) (h0 : Heap) (y : MethodName) (code : ByteArray) (maxL : Nat) (ret : Option FieldType) (rm : Room) (as' : Array Value) (F : OHp) (Q : Option Value → OHp → Prop) : Prop :=
  ∀ (ws : List Jvm.Cond) (h : Heap), MetFree l y (head1 (Jvm.Cond.code y code maxL ret :: ws) rm) (fun a U => a = as' ∧ Z.Warmed39 U.vm ∧ U.heap = h ∧ Hp Z a0 (some (EL, U.vm, U.vm, h.size)) h0 h F h F) (fun _ _ _ _ _ => True)
    (fun _ U o U' => ∃ v L, o = .returned v ∧ (Fr h0.size L ∧ ∃ F' k1, Q v F' ∧ Hp Z a0 (some (EL, U.vm, U'.vm, k1)) h0 h F U'.heap F') ∧ ReturnedEndW U o U' L rm.cells rm.slots)
theorem Does.mk {l : Launch} {Z : State} {a0 : Array Value} {h0 : Heap} {y : MethodName} {code : ByteArray} {maxL : Nat} {ret : Option FieldType} {rm : Room} {as' : Array Value} {F : OHp} {Q : Option Value → OHp → Prop} (Ls : Array Slot)
    (hp : plainFor y = true) (hent : ∀ m, entryFrame m as' maxL = mkF m 0 Ls [])
    (K : ∀ (p : Program) (e : Env) (s : State) (m : MethodId) (args : Array Value) (below : List Frame) (meth : Method) (c : Code) (h : Heap), Cx p s m meth c Z y code maxL ret → Goes p l e rm s m args below meth c Z a0 none s h0 h F rm.cells rm.slots Q F 0 0 (mkF m 0 Ls [])) :
    Does l Z a0 h0 y code maxL ret rm as' F Q := by
  intro ws h hH
  refine MetFree.of_bodySF (code := code) (maxLocals := maxL) (ret := ret) hp hisR ?_
  intro p e s m args below meth c s₁ Bd hml hP hK
  obtain ⟨rfl, hZ, hh⟩ := hP
  have X0 : Stand p l e rm s m args below meth c s₁ [] 0 0 := Stand.of_body Bd
  have e0 : s₁.heap = h := by rw [← hh, Bd.state]; rfl
  have G := K p e s m args below meth c h ⟨Bd.exec, Bd.bytes, hml, findClass_of_methodNamed Bd.named, (name_of_methodNamed Bd.named Bd.method).1, Bd.returns, Bd.notSynchronized, hZ⟩ s₁ [] rfl X0 (Fr.nil _) (by rw [e0]; exact hH)
  obtain ⟨t, o, h1, h2, h3, v, L, h4, h5, h6, h7⟩ := G
  exact ⟨t, o, castTop (hent m) h1, h2, h3, v, L, h4, ⟨h5, h6⟩, h7⟩
theorem DoesW.mk {l : Launch} {Z : State} {a0 : Array Value} {EL : List (String × Nat)} {h0 : Heap} {y : MethodName} {code : ByteArray} {maxL : Nat} {ret : Option FieldType} {rm : Room} {as' : Array Value} {F : OHp} {Q : Option Value → OHp → Prop} (Ls : Array Slot)
    (hp : plainFor y = true) (hent : ∀ m, entryFrame m as' maxL = mkF m 0 Ls [])
    (K : ∀ (p : Program) (e : Env) (s0 : State) (vmS vm0 : Vm) (k0 : Nat) (m : MethodId) (args : Array Value) (below : List Frame) (meth : Method) (c : Code) (h : Heap), Cx p (s0.setVm vm0) m meth c Z y code maxL ret → Goes p l e rm (s0.setVm vm0) m args below meth c Z a0 (some (EL, vmS, vm0, k0)) s0 h0 h F rm.cells rm.slots Q F 0 0 (mkF m 0 Ls [])) :
    DoesW l Z a0 EL h0 y code maxL ret rm as' F Q := by
  intro ws h
  refine MetFree.of_bodySF (code := code) (maxLocals := maxL) (ret := ret) hp hisR ?_
  intro p e s m args below meth c s₁ Bd hml hP hK
  obtain ⟨rfl, hZ, hh, hH⟩ := hP
  have X0 : Stand p l e rm s m args below meth c s₁ [] 0 0 := Stand.of_body Bd
  have e0 : s₁.heap = h := by rw [← hh, Bd.state]; rfl
  have G := K p e s s.vm s.vm h.size m args below meth c h ⟨Bd.exec, Bd.bytes, hml, findClass_of_methodNamed Bd.named, (name_of_methodNamed Bd.named Bd.method).1, Bd.returns, Bd.notSynchronized, hZ⟩ s₁ [] ⟨rfl, (State.WarmedH.refl s).since _⟩ X0 (Fr.nil _) (by rw [e0]; exact hH)
  obtain ⟨t, o, h1, h2, h3, v, L, h4, h5, h6, h7⟩ := G
  exact ⟨t, o, castTop (hent m) h1, h2, h3, v, L, h4, ⟨h5, h6⟩, h7⟩
/-- the tables at hand -/
theorem Hp.atVm {p : Program} {l : Launch} {e : Env} {R : Room} {s0 : State} {m : MethodId} {args : Array Value} {below : List Frame} {meth : Method} {c : Code} {T : State} {locs : List Loc} {cells slots : Nat} {Z : State} {a0 : Array Value} {h0 hS : Heap} {F0 H : OHp} {EL : List (String × Nat)} {vmS vm0 : Vm} {k0 : Nat}
    (Y : Stand p l e R (s0.setVm vm0) m args below meth c T locs cells slots) (A : Hp Z a0 (some (EL, vmS, vm0, k0)) h0 hS F0 T.heap H) : Hp Z a0 (some (EL, vmS, T.vm, k0)) h0 hS F0 T.heap H := by
  obtain ⟨E, K, ⟨w, hZ, C, hk⟩, F, I⟩ := A
  have B := CHv.at Y hZ w C.1
  refine ⟨E, K, ⟨w, wtrans (s := s0.setVm vm0) hZ Y.warmed, C.trans B, hk⟩, fun i x hi => ?_, I⟩
  obtain ⟨r1, r2, r3⟩ := F i x hi
  exact ⟨r1, fun t => ⟨(r2 t).1, (r2 t).2.1, B.safe r1.lt (r2 t).2.2⟩, r3⟩
section Goes
variable {p : Program} {l : Launch} {e : Env} {R : Room} {s : State} {m : MethodId} {args : Array Value} {below : List Frame} {meth : Method} {c : Code} {Z : State} {a0 : Array Value} {h0 hS : Heap} {M : OMode} {s0 : State} {F0 : OHp} {rc rs : Nat} {Q : Option Value → OHp → Prop} {H : OHp} {cells slots : Nat} {y : MethodName} {code : ByteArray} {maxL : Nat} {ret : Option FieldType} {pc : Nat} {Ls : Array Slot} {st : List Value}
theorem Ends.via {T T' : State} {g g' : JFrame} (k : Ends p e s0 below Z a0 M h0 hS F0 rc rs Q T' g') (st : ∀ t, Steps p.tables e below (T'.setTop g') t → Steps p.tables e below (T.setTop g) t) : Ends p e s0 below Z a0 M h0 hS F0 rc rs Q T g := by
  obtain ⟨t, o, h1, r⟩ := k
  exact ⟨t, o, st _ h1, r⟩
theorem Goes.run (X : Cx p s m meth c Z y code maxL ret) (is : List (Instr × Nat)) {L' : Array Slot} {S' : List Value} {pc' : Nat} (he : oRun is Ls st = some (L', S')) (k : Goes p l e R s m args below meth c Z a0 M s0 h0 hS F0 rc rs Q H cells slots (mkF m pc' L' S')) (hb : oBlk code pc is = true := by decide +kernel) (hp : oEnd pc is = pc' := by rfl) : Goes p l e R s m args below meth c Z a0 M s0 h0 hS F0 rc rs Q H cells slots (mkF m pc Ls st) := fun T locs S Y N A => by
  subst hp
  exact (k T locs S Y N A).via fun t q => oRun.sound is Y.here X.1 (by rw [X.2.1]; exact hb) he q
theorem Goes.runS (X : Cx p s m meth c Z y code maxL ret) (is : List (Instr × Nat)) {S' : List Value} {pc' : Nat} (he : oRun is Ls st = some (Ls, S')) (k : Goes p l e R s m args below meth c Z a0 M s0 h0 hS F0 rc rs Q H cells slots (mkF m pc' Ls S')) (hb : oBlk code pc is = true := by decide +kernel) (hp : oEnd pc is = pc' := by rfl) : Goes p l e R s m args below meth c Z a0 M s0 h0 hS F0 rc rs Q H cells slots (mkF m pc Ls st) := Goes.run X is he k hb hp
theorem Goes.goto (X : Cx p s m meth c Z y code maxL ret) {o : Int} {pc' : Nat} (k : Goes p l e R s m args below meth c Z a0 M s0 h0 hS F0 rc rs Q H cells slots (mkF m pc' Ls st)) (hd : oAt code pc (.goto o, 3) = true := by decide +kernel) (ho : 0 ≤ (pc : Int) + o := by decide) (hp : ((pc : Int) + o).toNat = pc' := by decide) : Goes p l e R s m args below meth c Z a0 M s0 h0 hS F0 rc rs Q H cells slots (mkF m pc Ls st) := fun T locs S Y N A =>
  (k T locs S Y N A).via fun t q => XS.goto Y.here X.1 rfl (pc0 := pc) rfl (hb X.2.1 (oAt.dec hd)) ho hp q
theorem Goes.if1 (X : Cx p s m meth c Z y code maxL ret) {cd : ClassFile.Cond} {o : Int} {pc' : Nat} {x : Int32} (k1 : ifCond.holds cd x = true → Goes p l e R s m args below meth c Z a0 M s0 h0 hS F0 rc rs Q H cells slots (mkF m pc' Ls st)) (k2 : ifCond.holds cd x = false → Goes p l e R s m args below meth c Z a0 M s0 h0 hS F0 rc rs Q H cells slots (mkF m (pc + 3) Ls st)) (hd : oAt code pc (.ifCond cd o, 3) = true := by decide +kernel) (ho : 0 ≤ (pc : Int) + o := by decide) (hp : ((pc : Int) + o).toNat = pc' := by decide) : Goes p l e R s m args below meth c Z a0 M s0 h0 hS F0 rc rs Q H cells slots (mkF m pc Ls (.int x :: st)) := fun T locs S Y N A => by
  cases q : ifCond.holds cd x with
  | true => exact (k1 q T locs S Y N A).via fun t r => XS.ifYes Y.here X.1 rfl (pc0 := pc) rfl (hb X.2.1 (oAt.dec hd)) rfl q ho hp r
  | false => exact (k2 q T locs S Y N A).via fun t r => XS.ifNo Y.here X.1 rfl (hb X.2.1 (oAt.dec hd)) rfl q r
theorem Goes.if2 (X : Cx p s m meth c Z y code maxL ret) {cd : ClassFile.Cond} {o : Int} {pc' : Nat} {x z : Int32} (k1 : if_icmp.holds cd x z = true → Goes p l e R s m args below meth c Z a0 M s0 h0 hS F0 rc rs Q H cells slots (mkF m pc' Ls st)) (k2 : if_icmp.holds cd x z = false → Goes p l e R s m args below meth c Z a0 M s0 h0 hS F0 rc rs Q H cells slots (mkF m (pc + 3) Ls st)) (hd : oAt code pc (.if_icmp cd o, 3) = true := by decide +kernel) (ho : 0 ≤ (pc : Int) + o := by decide) (hp : ((pc : Int) + o).toNat = pc' := by decide) : Goes p l e R s m args below meth c Z a0 M s0 h0 hS F0 rc rs Q H cells slots (mkF m pc Ls (.int z :: .int x :: st)) := fun T locs S Y N A => by
  cases q : if_icmp.holds cd x z with
  | true => exact (k1 q T locs S Y N A).via fun t r => XS.icmpYes Y.here X.1 rfl (pc0 := pc) rfl (hb X.2.1 (oAt.dec hd)) rfl q ho hp r
  | false => exact (k2 q T locs S Y N A).via fun t r => XS.icmpNo Y.here X.1 rfl (hb X.2.1 (oAt.dec hd)) rfl q r
theorem Goes.ifA (X : Cx p s m meth c Z y code maxL ret) {cd : ClassFile.ACond} {o : Int} {pc' : Nat} {x z : Value} (h1 : x.isRef = true) (h2 : z.isRef = true) (k1 : acV cd (decide (x = z)) = true → Goes p l e R s m args below meth c Z a0 M s0 h0 hS F0 rc rs Q H cells slots (mkF m pc' Ls st)) (k2 : acV cd (decide (x = z)) = false → Goes p l e R s m args below meth c Z a0 M s0 h0 hS F0 rc rs Q H cells slots (mkF m (pc + 3) Ls st)) (hd : oAt code pc (.if_acmp cd o, 3) = true := by decide +kernel) (ho : 0 ≤ (pc : Int) + o := by decide) (hp : ((pc : Int) + o).toNat = pc' := by decide) : Goes p l e R s m args below meth c Z a0 M s0 h0 hS F0 rc rs Q H cells slots (mkF m pc Ls (z :: x :: st)) := fun T locs S Y N A => by
  cases q : acV cd (decide (x = z)) with
  | true => exact (k1 q T locs S Y N A).via fun t r => acmp Y X.1 rfl h1 h2 (pc0 := pc) (pc' := pc') rfl (hb X.2.1 (oAt.dec hd)) rfl rfl ho (by rw [if_pos q]; exact hp.symm) r
  | false => exact (k2 q T locs S Y N A).via fun t r => acmp Y X.1 rfl h1 h2 (pc0 := pc) (pc' := pc + 3) rfl (hb X.2.1 (oAt.dec hd)) rfl rfl ho (by rw [if_neg (by rw [q]; simp)]) r
theorem Goes.nullY (X : Cx p s m meth c Z y code maxL ret) {o : Int} {pc' : Nat} (k : Goes p l e R s m args below meth c Z a0 M s0 h0 hS F0 rc rs Q H cells slots (mkF m pc' Ls st)) (hd : oAt code pc (.ifnull o, 3) = true := by decide +kernel) (ho : 0 ≤ (pc : Int) + o := by decide) (hp : ((pc : Int) + o).toNat = pc' := by decide) : Goes p l e R s m args below meth c Z a0 M s0 h0 hS F0 rc rs Q H cells slots (mkF m pc Ls (.null :: st)) := fun T locs S Y N A =>
  (k T locs S Y N A).via fun t r => XS.ifnullYes Y.here X.1 rfl (pc0 := pc) rfl (hb X.2.1 (oAt.dec hd)) rfl ho hp r
theorem Goes.nullN (X : Cx p s m meth c Z y code maxL ret) {o : Int} {b : Addr} (k : Goes p l e R s m args below meth c Z a0 M s0 h0 hS F0 rc rs Q H cells slots (mkF m (pc + 3) Ls st)) (hd : oAt code pc (.ifnull o, 3) = true := by decide +kernel) : Goes p l e R s m args below meth c Z a0 M s0 h0 hS F0 rc rs Q H cells slots (mkF m pc Ls (.ref b :: st)) := fun T locs S Y N A =>
  (k T locs S Y N A).via fun t r => XS.ifnullNo Y.here X.1 rfl (hb X.2.1 (oAt.dec hd)) rfl r
theorem Goes.nonY (X : Cx p s m meth c Z y code maxL ret) {o : Int} {pc' : Nat} {b : Addr} (k : Goes p l e R s m args below meth c Z a0 M s0 h0 hS F0 rc rs Q H cells slots (mkF m pc' Ls st)) (hd : oAt code pc (.ifnonnull o, 3) = true := by decide +kernel) (ho : 0 ≤ (pc : Int) + o := by decide) (hp : ((pc : Int) + o).toNat = pc' := by decide) : Goes p l e R s m args below meth c Z a0 M s0 h0 hS F0 rc rs Q H cells slots (mkF m pc Ls (.ref b :: st)) := fun T locs S Y N A =>
  (k T locs S Y N A).via fun t r => XS.ifnonnullYes Y.here X.1 rfl (pc0 := pc) rfl (hb X.2.1 (oAt.dec hd)) rfl ho hp r
theorem Goes.nonN (X : Cx p s m meth c Z y code maxL ret) {o : Int} (k : Goes p l e R s m args below meth c Z a0 M s0 h0 hS F0 rc rs Q H cells slots (mkF m (pc + 3) Ls st)) (hd : oAt code pc (.ifnonnull o, 3) = true := by decide +kernel) : Goes p l e R s m args below meth c Z a0 M s0 h0 hS F0 rc rs Q H cells slots (mkF m pc Ls (.null :: st)) := fun T locs S Y N A =>
  (k T locs S Y N A).via fun t r => XS.ifnonnullNo Y.here X.1 rfl (hb X.2.1 (oAt.dec hd)) rfl r
theorem Goes.ldcI (X : Cx p s m meth c Z y code maxL ret) {index : Nat} {v : Int32} (w : (Jvm.Cond.constant y.cls index v).before a0 Z = true) (k : Goes p l e R s m args below meth c Z a0 M s0 h0 hS F0 rc rs Q H cells slots (mkF m (pc + 2) Ls (.int v :: st))) (hd : oAt code pc (.ldc index, 2) = true := by decide +kernel) : Goes p l e R s m args below meth c Z a0 M s0 h0 hS F0 rc rs Q H cells slots (mkF m pc Ls st) := fun T locs S Y N A =>
  (k T locs S Y N A).via fun t r => Y.ldcI X.1 X.2.2.2.1 (mvT X.2.2.2.2.2.2.2 w) rfl (hb X.2.1 (oAt.dec hd)) r
/-- fewer objects, or in another order -/
theorem Goes.sub {G : OHp} (ix : List Nat) (hG : ix.map (fun i => H[i]?) = G.map some) {g : JFrame} (k : Goes p l e R s m args below meth c Z a0 M s0 h0 hS F0 rc rs Q G cells slots g) (hN : ix.Nodup := by decide) : Goes p l e R s m args below meth c Z a0 M s0 h0 hS F0 rc rs Q H cells slots g := fun T locs S Y N A =>
  k T locs S Y N (A.sub ix hG hN)
theorem Goes.more {cells' slots' : Nat} (h1 : cells ≤ cells') (h2 : slots ≤ slots') {g : JFrame} (k : Goes p l e R s m args below meth c Z a0 M s0 h0 hS F0 rc rs Q H cells' slots' g) : Goes p l e R s m args below meth c Z a0 M s0 h0 hS F0 rc rs Q H cells slots g := fun T locs S Y N A =>
  k T locs S (Y.more h1 h2) N A
/-- two objects at two places of the list lie at two addresses -/
theorem Goes.ne {g : JFrame} (i j : Nat) {x z : Addr × OObj} (hi : H[i]? = some x) (hj : H[j]? = some z) (t : x.2.1 = 0 ∨ z.2.1 = 0) (q : i ≠ j) (k : x.1 ≠ z.1 → Goes p l e R s m args below meth c Z a0 M s0 h0 hS F0 rc rs Q H cells slots g) : Goes p l e R s m args below meth c Z a0 M s0 h0 hS F0 rc rs Q H cells slots g := fun T locs S Y N A =>
  k (A.ne hi hj t q) T locs S Y N A
theorem Goes.new (X : Cx p s m meth c Z y code maxL ret) {C : String} {index n : Nat} (fs : List OFld) (w : (Jvm.Cond.classLink y.cls index C).before a0 Z = true) (wi : (Jvm.Cond.instantiable C n).before a0 Z = true) (wz : (Jvm.Cond.initialized C).before a0 Z = true) (hfs : ∀ f ∈ fs, Laid Z a0 C f.1 f.2.1 f.2.2.1 ∧ ∃ t, parseFieldDescriptor f.2.2.1 = some t ∧ f.2.2.2 = defaultValue t) (k : ∀ a, Goes p l e R s m args below meth c Z a0 M s0 h0 hS F0 rc rs Q (H ++ [(a, ob C fs)]) (cells + 1) (slots + n) (mkF m (pc + 3) Ls (.ref a :: st))) (hd : oAt code pc (.new index, 3) = true := by decide +kernel) (hc : cells + 1 ≤ R.cells := by decide) (hl : slots + n ≤ R.slots := by decide) : Goes p l e R s m args below meth c Z a0 M s0 h0 hS F0 rc rs Q H cells slots (mkF m pc Ls st) := fun T locs S Y N A => by
  obtain ⟨T', h', Y', e', E', X', D', -, st'⟩ := newO Y X.1 X.2.2.2.2.2.2.2 X.2.2.2.1 w wi wz rfl (g := mkF m pc Ls st) rfl (hb X.2.1 (oAt.dec hd)) hc hl
  refine (k T.heap.size T' locs S Y' N ?_).via st'
  rw [e']
  refine A.new E' ⟨X', fun f hf => ?_⟩
  obtain ⟨h1, t, h2, h3⟩ := hfs f hf
  exact ⟨h1, ⟨t, h2⟩, by rw [h3]; exact D' h1 h2⟩
theorem Goes.getF (X : Cx p s m meth c Z y code maxL ret) {R0 : String} {index : Nat} (i j : Nat) {a : Addr} {C : String} {fs : List OFld} {f : OFld} {tg : Nat} (hi : H[i]? = some (a, tg, Sum.inl (C, fs))) (hj : fs[j]? = some f) (w : (Jvm.Cond.fieldLink y.cls index R0 f.2.1 f.2.2.1).before a0 Z = true) (via : Via Z R0 f.1 f.2.1 f.2.2.1) (k : Goes p l e R s m args below meth c Z a0 M s0 h0 hS F0 rc rs Q H cells slots (mkF m (pc + 3) Ls (f.2.2.2 :: st))) (hd : oAt code pc (.getfield index, 3) = true := by decide +kernel) : Goes p l e R s m args below meth c Z a0 M s0 h0 hS F0 rc rs Q H cells slots (mkF m pc Ls (.ref a :: st)) := fun T locs S Y N A => by
  have F := ((A.at hi).2 f (List.mem_of_getElem? hj)).2.2
  obtain ⟨T', Y', e', st'⟩ := RoadKit.getF Y X.1 X.2.2.2.2.2.2.2 (host := "") X.2.2.2.1 (Or.inl w) via rfl F (g := mkF m pc Ls (.ref a :: st)) rfl rfl (hb X.2.1 (oAt.dec hd))
  exact (k T' locs S Y' N (by rw [e']; exact A)).via st'
theorem Goes.getFN (X : Cx p s m meth c Z y code maxL ret) {R0 host : String} {index : Nat} (i j : Nat) {a : Addr} {C : String} {fs : List OFld} {f : OFld} {tg : Nat} (hi : H[i]? = some (a, tg, Sum.inl (C, fs))) (hj : fs[j]? = some f) (w : (Jvm.Cond.fieldLinkNest y.cls index R0 f.2.1 f.2.2.1 host).before a0 Z = true) (via : Via Z R0 f.1 f.2.1 f.2.2.1) (k : Goes p l e R s m args below meth c Z a0 M s0 h0 hS F0 rc rs Q H cells slots (mkF m (pc + 3) Ls (f.2.2.2 :: st))) (hd : oAt code pc (.getfield index, 3) = true := by decide +kernel) : Goes p l e R s m args below meth c Z a0 M s0 h0 hS F0 rc rs Q H cells slots (mkF m pc Ls (.ref a :: st)) := fun T locs S Y N A => by
  have F := ((A.at hi).2 f (List.mem_of_getElem? hj)).2.2
  obtain ⟨T', Y', e', st'⟩ := RoadKit.getF Y X.1 X.2.2.2.2.2.2.2 (host := host) X.2.2.2.1 (Or.inr w) via rfl F (g := mkF m pc Ls (.ref a :: st)) rfl rfl (hb X.2.1 (oAt.dec hd))
  exact (k T' locs S Y' N (by rw [e']; exact A)).via st'
theorem Goes.putF (X : Cx p s m meth c Z y code maxL ret) {R0 : String} {index kk : Nat} (i j : Nat) {a : Addr} {C : String} {fs : List OFld} {f : OFld} {v : Value} {ty : FieldType} (hi : H[i]? = some (a, ob C fs)) (hj : fs[j]? = some f) (w : (Jvm.Cond.fieldLink y.cls index R0 f.2.1 f.2.2.1).before a0 Z = true) (via : Via Z R0 f.1 f.2.1 f.2.2.1) (L : (Jvm.Cond.lays C f.1 f.2.1 f.2.2.1).before a0 Z = true ∨ ((Jvm.Cond.laysFinal C f.1 f.2.1 f.2.2.1).before a0 Z = true ∧ y.cls = f.1 ∧ y.name = "<init>")) (wi : (Jvm.Cond.instantiable C kk).before a0 Z = true) (hn : ∀ i f', fs[i]? = some f' → i ≠ j → f'.2.1 ≠ f.2.1) (hty : parseFieldDescriptor f.2.2.1 = some ty) (hnv : narrow ty v = v) (hf : fits ty v = true) (k : Goes p l e R s m args below meth c Z a0 M s0 h0 hS F0 rc rs Q (H.set i (a, ob C (fs.set j (f.1, f.2.1, f.2.2.1, v)))) cells slots (mkF m (pc + 3) Ls st)) (hd : oAt code pc (.putfield index, 3) = true := by decide +kernel) : Goes p l e R s m args below meth c Z a0 M s0 h0 hS F0 rc rs Q H cells slots (mkF m pc Ls (v :: .ref a :: st)) := fun T locs S Y N A => by
  have O := A.at hi
  have F := (O.2 f (List.mem_of_getElem? hj)).2.2
  obtain ⟨T', h', Y', e', W, st'⟩ := RoadKit.putF Y X.1 X.2.2.2.2.2.2.2 (host := "") X.2.2.2.1 (Or.inl w) via rfl F O.1 (L.imp id fun q => ⟨q.1, q.2.1, X.2.2.2.2.1.trans q.2.2⟩) wi hty hnv hf (g := mkF m pc Ls (v :: .ref a :: st)) rfl rfl (hb X.2.1 (oAt.dec hd))
  refine (k T' _ S Y' (Fr.snoc Y' N ((A.2.2.2.1 i _ hi).2.1 rfl).1) ?_).via st'
  rw [e']
  exact A.wr hi W (OKo.put O hj hn W)
theorem Goes.getS (X : Cx p s m meth c Z y code maxL ret) {R0 O n d : String} {index : Nat} {v : Value} (w : (Jvm.Cond.fieldLink y.cls index R0 n d).before a0 Z = true) (via : Via Z R0 O n d) (F : Sta Z h0 O n d v) (k : Goes p l e R s m args below meth c Z a0 M s0 h0 hS F0 rc rs Q H cells slots (mkF m (pc + 3) Ls (v :: st))) (hd : oAt code pc (.getstatic index, 3) = true := by decide +kernel) : Goes p l e R s m args below meth c Z a0 M s0 h0 hS F0 rc rs Q H cells slots (mkF m pc Ls st) := fun T locs S Y N A => by
  obtain ⟨T', Y', e', st'⟩ := RoadKit.getS Y X.1 X.2.2.2.2.2.2.2 (host := "") X.2.2.2.1 w via rfl (F.ext A.1) (g := mkF m pc Ls st) rfl (hb X.2.1 (oAt.dec hd))
  exact (k T' locs S Y' N (by rw [e']; exact A)).via st'
theorem Goes.initO (X : Cx p s m meth c Z y code maxL ret) {index : Nat} {a : Addr} (W : Nat) (w1 : (Jvm.Cond.methodLink y.cls index Lib.objectInit).before a0 Z = true) (w2 : (Jvm.Cond.instanceMethod Lib.objectInit).before a0 Z = true) (w3 : (Jvm.Cond.code Lib.objectInit ⟨#[0xb1]⟩ 1 none).before a0 Z = true) (hsize : Ls.size = maxL) (k : Goes p l e R s m args below meth c Z a0 M s0 h0 hS F0 rc rs Q H cells slots (mkF m (pc + 3) Ls st)) (hd : oAt code pc (.invokespecial index, 3) = true := by decide +kernel) (hf : 1 ≤ R.frames := by decide) (hW : (st.map fun v => v.category).sum = W := by rfl) (hl : W + 12 ≤ R.locals := by decide) : Goes p l e R s m args below meth c Z a0 M s0 h0 hS F0 rc rs Q H cells slots (mkF m pc Ls (.ref a :: st)) := fun T locs S Y N A => by
  subst hW
  obtain ⟨T', Y', e', st'⟩ := RoadKit.initO Y X.1 X.2.2.2.2.2.2.2 X.2.2.2.1 w1 w2 w3 rfl (g := mkF m pc Ls (.ref a :: st)) rfl (hsize.trans X.2.2.1.symm) rfl (hb X.2.1 (oAt.dec hd)) hf (W := (st.map fun v => v.category).sum) (by show 2 * 0 + _ ≤ _; omega) hl
  exact (k T' locs S Y' N (by rw [e']; exact A)).via st'
/-- the return -/
theorem Goes.fin {v : Option Value} {g : JFrame} (X : Cx p s m meth c Z y code maxL ret) (hv : ret = none → v = none) (hQ : Q v H) (hc : cells ≤ rc) (hs : slots ≤ rs)
    (hst : ∀ (T : State) (locs : List Loc) (fs : List Frame), Stand p l e R s m args below meth c T locs cells slots → (∀ (f : JFrame) (acts : List Action), f.method = m → f.locked = none → f.entered = [] → (doReturn e (T.setTop f) acts v).1 = T.setFrames fs) → Steps p.tables e below (T.setTop g) (T.setFrames fs)) :
    Goes p l e R s m args below meth c Z a0 M s0 h0 hS F0 rc rs Q H cells slots g := fun T locs S Y N A => by
  rcases M with _ | ⟨EL, vmS, vm0, k0⟩
  · obtain rfl : s = s0 := S
    obtain ⟨fs, hr, hrun, hended, hW, hsame⟩ := Y.leave (v := v) (fun q => hv (X.2.2.2.2.2.1.symm.trans q)) X.2.2.2.2.2.2.1
    exact ⟨_, _, hst T locs fs Y hr, hrun, hended, v, locs, rfl, N, ⟨H, hQ, A⟩, ⟨_, rfl⟩, hW, hsame.mono hc hs⟩
  · obtain ⟨rfl, hS'⟩ := S
    obtain ⟨fs, hr, hrun, hended, e1, e2, e3, e4⟩ := Y.leaveW hS' A.2.2.1.2.2.2 (v := v) (fun q => hv (X.2.2.2.2.2.1.symm.trans q)) X.2.2.2.2.2.2.1
    exact ⟨_, _, hst T locs fs Y hr, hrun, hended, v, locs, rfl, N, ⟨H, k0, hQ, Hp.atVm (T := T) Y A⟩, e1, e2, e3, e4.mono hc hs⟩
theorem Goes.retV (X : Cx p s m meth c Z y code maxL none) (hQ : Q none H) (hd : oAt code pc (.return_, 1) = true := by decide +kernel) (hc : cells ≤ rc := by decide) (hs : slots ≤ rs := by decide) : Goes p l e R s m args below meth c Z a0 M s0 h0 hS F0 rc rs Q H cells slots (mkF m pc Ls []) :=
  Goes.fin X (fun _ => rfl) hQ hc hs fun T locs fs Y hr => Y.returnOut X.1 X.2.2.2.2.2.1 (hb X.2.1 (oAt.dec hd)) hr
theorem Goes.retI {z : Int32} {t : FieldType} (X : Cx p s m meth c Z y code maxL (some t)) (ht : t = .int ∨ t = .boolean ∨ t = .byte ∨ t = .char ∨ t = .short) (hn : narrow t (.int z) = .int z) (hQ : Q (some (.int z)) H) (hd : oAt code pc (.ireturn, 1) = true := by decide +kernel) (hc : cells ≤ rc := by decide) (hs : slots ≤ rs := by decide) : Goes p l e R s m args below meth c Z a0 M s0 h0 hS F0 rc rs Q H cells slots (mkF m pc Ls (.int z :: st)) :=
  Goes.fin X (fun q => by cases q) hQ hc hs fun T locs fs Y hr => retOut Y X.1 X.2.2.2.2.2.1 hn (Or.inl ⟨rfl, ht, z, rfl⟩) (hb X.2.1 (oAt.dec hd)) hr
theorem Goes.retJ {z : Int64} (X : Cx p s m meth c Z y code maxL (some .long)) (hQ : Q (some (.long z)) H) (hd : oAt code pc (.lreturn, 1) = true := by decide +kernel) (hc : cells ≤ rc := by decide) (hs : slots ≤ rs := by decide) : Goes p l e R s m args below meth c Z a0 M s0 h0 hS F0 rc rs Q H cells slots (mkF m pc Ls (.long z :: st)) :=
  Goes.fin X (fun q => by cases q) hQ hc hs fun T locs fs Y hr => retOut Y X.1 X.2.2.2.2.2.1 rfl (Or.inr (Or.inl ⟨rfl, rfl, z, rfl⟩)) (hb X.2.1 (oAt.dec hd)) hr
theorem Goes.retA {v : Value} {t : FieldType} (X : Cx p s m meth c Z y code maxL (some t)) (ht : t.isReference = true) (hv : v.isRef = true) (hn : narrow t v = v) (hQ : Q (some v) H) (hd : oAt code pc (.areturn, 1) = true := by decide +kernel) (hc : cells ≤ rc := by decide) (hs : slots ≤ rs := by decide) : Goes p l e R s m args below meth c Z a0 M s0 h0 hS F0 rc rs Q H cells slots (mkF m pc Ls (v :: st)) :=
  Goes.fin X (fun q => by cases q) hQ hc hs fun T locs fs Y hr => retOut Y X.1 X.2.2.2.2.2.1 hn (Or.inr (Or.inr (Or.inr (Or.inr ⟨rfl, ht, hv⟩)))) (hb X.2.1 (oAt.dec hd)) hr
/-- a static call -/
theorem Goes.callS (X : Cx p s m meth c Z y code maxL ret) {index : Nat} {y' : MethodName} {code' : ByteArray} {maxL' : Nat} {ret' : Option FieldType} {rm : Room} {argsL : List Value} {F G : OHp} {Q' : Option Value → OHp → Prop} (W : Nat) (ix rx : List Nat) (D : Does l Z a0 h0 y' code' maxL' ret' rm argsL.toArray F Q') (w1 : (Jvm.Cond.methodLink y.cls index y').before a0 Z = true) (w2 : (Jvm.Cond.static y').before a0 Z = true) (w3 : (Jvm.Cond.initialized y'.cls).before a0 Z = true) (w4 : (Jvm.Cond.code y' code' maxL' ret').before a0 Z = true) {ps : List FieldType} {r : Option FieldType} (hpd : parseMethodDescriptor y'.desc = some ⟨ps, r⟩) (hlen : argsL.length = ps.length) {stk : List Value} (hstk : stk = argsL.reverse ++ st) (hsize : Ls.size = maxL) (hF : ix.map (fun i => H[i]?) = F.map some) (hG : rx.map (fun i => H[i]?) = G.map some) (k : ∀ v F', Q' v F' → own_tg F F' G ∧ Goes p l e R s m args below meth c Z a0 M s0 h0 hS F0 rc rs Q (F' ++ G) (cells + rm.cells) (slots + rm.slots) (mkF m (pc + 3) Ls (v.toList ++ st))) (hy : y'.cls ≠ "java/lang/invoke/MethodHandle" ∧ y'.cls ≠ "java/lang/invoke/VarHandle" := by decide) (hN : (ix ++ rx).Nodup := by decide) (hd : oAt code pc (.invokestatic index, 3) = true := by decide +kernel) (hfr : rm.frames + 1 ≤ R.frames := by decide) (hW : (st.map fun v => v.category).sum = W := by rfl) (hlo : W + (maxL' + 11) + rm.locals ≤ R.locals := by decide) (hce : cells + rm.cells ≤ R.cells := by decide) (hsl : slots + rm.slots ≤ R.slots := by decide) : Goes p l e R s m args below meth c Z a0 M s0 h0 hS F0 rc rs Q H cells slots (mkF m pc Ls stk) := fun T locs S Y N A => by
  subst hstk hW
  have NN := List.nodup_append.mp hN
  obtain ⟨v, vm1, ⟨T', L', k', n'⟩, -, Y', ⟨Lc, ⟨N', F', hQ', B⟩, l', k'', n''⟩, st'⟩ := Jvm.LawKit.callS Y X.1 (y := y') X.2.2.2.1 (mvT X.2.2.2.2.2.2.2 w1) (mvT X.2.2.2.2.2.2.2 w2) (mvT X.2.2.2.2.2.2.2 w3) (mvT X.2.2.2.2.2.2.2 w4) hy
    (backOf (W := (st.map fun v => v.category).sum) (Q := fun v h' L => Fr h0.size L ∧ ∃ F', Q' v F' ∧ Hp Z a0 none h0 T.heap F h' F') (D [] T.heap ((A.sub ix hF NN.1).enter)) X.2.2.2.2.2.2.2 w4 w3 hfr hlo) (g := mkF m pc Ls (argsL.reverse ++ st)) rfl (hsize.trans X.2.2.1.symm) (argsL := argsL) (rest := st) (lenOf hpd hlen) rfl (by show 2 * 0 + _ ≤ _; omega) (hb X.2.1 (oAt.dec hd)) (fun _ _ => ⟨rfl, rfl, hce, hsl⟩)
  dsimp only [Pt.U, Pt.locs, Pt.cells, Pt.slots] at Y' l' k'' n'' st' B
  subst l' k'' n''
  exact ((k v F' hQ').2 T' _ S Y' (N.app N') (A.back hF hG hN B (k v F' hQ').1)).via st'
/-- a constructor's call -/
theorem Goes.callN (X : Cx p s m meth c Z y code maxL ret) {index : Nat} {y' : MethodName} {code' : ByteArray} {maxL' : Nat} {rm : Room} {argsL : List Value} {a : Addr} {F G : OHp} {Q' : Option Value → OHp → Prop} (W : Nat) (ix rx : List Nat) (D : Does l Z a0 h0 y' code' maxL' none rm (.ref a :: argsL).toArray F Q') (hy1 : y'.name = "<init>") (w1 : (Jvm.Cond.methodLink y.cls index y').before a0 Z = true) (w2 : (Jvm.Cond.instanceMethod y').before a0 Z = true) (w3 : (Jvm.Cond.initialized y'.cls).before a0 Z = true) (w4 : (Jvm.Cond.code y' code' maxL' none).before a0 Z = true) {ps : List FieldType} {r : Option FieldType} (hpd : parseMethodDescriptor y'.desc = some ⟨ps, r⟩) (hlen : argsL.length = ps.length) {stk : List Value} (hstk : stk = argsL.reverse ++ .ref a :: st) (hsize : Ls.size = maxL) (hF : ix.map (fun i => H[i]?) = F.map some) (hG : rx.map (fun i => H[i]?) = G.map some) (k : ∀ v F', Q' v F' → own_tg F F' G ∧ Goes p l e R s m args below meth c Z a0 M s0 h0 hS F0 rc rs Q (F' ++ G) (cells + rm.cells) (slots + rm.slots) (mkF m (pc + 3) Ls (v.toList ++ st))) (hy : y'.cls ≠ "java/lang/invoke/MethodHandle" ∧ y'.cls ≠ "java/lang/invoke/VarHandle" := by decide) (hN : (ix ++ rx).Nodup := by decide) (hd : oAt code pc (.invokespecial index, 3) = true := by decide +kernel) (hfr : rm.frames + 1 ≤ R.frames := by decide) (hW : (st.map fun v => v.category).sum = W := by rfl) (hlo : W + (maxL' + 11) + rm.locals ≤ R.locals := by decide) (hce : cells + rm.cells ≤ R.cells := by decide) (hsl : slots + rm.slots ≤ R.slots := by decide) : Goes p l e R s m args below meth c Z a0 M s0 h0 hS F0 rc rs Q H cells slots (mkF m pc Ls stk) := fun T locs S Y N A => by
  subst hstk hW
  have NN := List.nodup_append.mp hN
  obtain ⟨v, vm1, ⟨T', L', k', n'⟩, -, Y', ⟨Lc, ⟨N', F', hQ', B⟩, l', k'', n''⟩, st'⟩ := Y.specialBack X.1 (y := y') hy1 X.2.2.2.1 (mvT X.2.2.2.2.2.2.2 w1) (mvT X.2.2.2.2.2.2.2 w2) (mvT X.2.2.2.2.2.2.2 w4) hy
    (backOf (W := (st.map fun v => v.category).sum) (Q := fun v h' L => Fr h0.size L ∧ ∃ F', Q' v F' ∧ Hp Z a0 none h0 T.heap F h' F') (D [] T.heap ((A.sub ix hF NN.1).enter)) X.2.2.2.2.2.2.2 w4 w3 hfr hlo) (g := mkF m pc Ls (argsL.reverse ++ .ref a :: st)) rfl (hsize.trans X.2.2.1.symm) (Steps.refl _) (a := a) (argsL := argsL) (rest := st) (lenOf hpd hlen) rfl (by show 2 * 0 + _ ≤ _; omega) (hb X.2.1 (oAt.dec hd)) (fun _ _ => ⟨rfl, rfl, hce, hsl⟩)
  dsimp only [Pt.U, Pt.locs, Pt.cells, Pt.slots] at Y' l' k'' n'' st' B
  subst l' k'' n''
  exact ((k v F' hQ').2 T' _ S Y' (N.app N') (A.back hF hG hN B (k v F' hQ').1)).via fun t q => st'.trans q
/-- a virtual call on an object of the list -/
theorem Goes.callV (X : Cx p s m meth c Z y code maxL ret) {index : Nat} {y' z' : MethodName} {code' : ByteArray} {maxL' : Nat} {ret' : Option FieldType} {rm : Room} {argsL : List Value} {a : Addr} {C : String} {F G : OHp} {Q' : Option Value → OHp → Prop} (W : Nat) (i : Nat) (ix rx : List Nat) {fs : List OFld} {tg : Nat} (hi : H[i]? = some (a, tg, Sum.inl (C, fs))) (D : Does l Z a0 h0 z' code' maxL' ret' rm (.ref a :: argsL).toArray F Q') (w1 : (Jvm.Cond.methodLink y.cls index y').before a0 Z = true) (w2 : (Jvm.Cond.declares y').before a0 Z = true) (w5 : (Jvm.Cond.selects C y' z').before a0 Z = true) (w6 : (Jvm.Cond.instanceMethod z').before a0 Z = true) (nf : NotFace s y') (w3 : (Jvm.Cond.initialized z'.cls).before a0 Z = true) (w4 : (Jvm.Cond.code z' code' maxL' ret').before a0 Z = true) {ps : List FieldType} {r : Option FieldType} (hpd : parseMethodDescriptor y'.desc = some ⟨ps, r⟩) (hlen : argsL.length = ps.length) {stk : List Value} (hstk : stk = argsL.reverse ++ .ref a :: st) (hsize : Ls.size = maxL) (hF : ix.map (fun i => H[i]?) = F.map some) (hG : rx.map (fun i => H[i]?) = G.map some) (k : ∀ v F', Q' v F' → own_tg F F' G ∧ Goes p l e R s m args below meth c Z a0 M s0 h0 hS F0 rc rs Q (F' ++ G) (cells + rm.cells) (slots + rm.slots) (mkF m (pc + 3) Ls (v.toList ++ st))) (hy : y'.cls ≠ "java/lang/invoke/MethodHandle" ∧ y'.cls ≠ "java/lang/invoke/VarHandle" := by decide) (hN : (ix ++ rx).Nodup := by decide) (hd : oAt code pc (.invokevirtual index, 3) = true := by decide +kernel) (hfr : rm.frames + 1 ≤ R.frames := by decide) (hW : (st.map fun v => v.category).sum = W := by rfl) (hlo : W + (maxL' + 11) + rm.locals ≤ R.locals := by decide) (hce : cells + rm.cells ≤ R.cells := by decide) (hsl : slots + rm.slots ≤ R.slots := by decide) : Goes p l e R s m args below meth c Z a0 M s0 h0 hS F0 rc rs Q H cells slots (mkF m pc Ls stk) := fun T locs S Y N A => by
  subst hstk hW
  have NN := List.nodup_append.mp hN
  obtain ⟨cq, kq, qa, qb, qc⟩ := isOf (T := T) X.2.2.2.2.2.2.2 rfl (A.at hi).1
  obtain ⟨v, vm1, ⟨T', L', k', n'⟩, -, Y', ⟨Lc, ⟨N', F', hQ', B⟩, l', k'', n''⟩, st'⟩ := Y.virtualBack X.1 (y := y') (z := z') X.2.2.2.1 (mvT X.2.2.2.2.2.2.2 w1) (mvT X.2.2.2.2.2.2.2 w2) nf (mvT X.2.2.2.2.2.2.2 w5) (mvT X.2.2.2.2.2.2.2 w6) hy
    (backOf (W := (st.map fun v => v.category).sum) (Q := fun v h' L => Fr h0.size L ∧ ∃ F', Q' v F' ∧ Hp Z a0 none h0 T.heap F h' F') (D [] T.heap ((A.sub ix hF NN.1).enter)) X.2.2.2.2.2.2.2 w4 w3 hfr hlo) qa qc (g := mkF m pc Ls (argsL.reverse ++ .ref a :: st)) rfl (hsize.trans X.2.2.1.symm) (Steps.refl _) (argsL := argsL) (rest := st) (lenOf hpd hlen) rfl (by show 2 * 0 + _ ≤ _; omega) (hb X.2.1 (oAt.dec hd)) (fun _ _ => ⟨rfl, rfl, hce, hsl⟩)
  dsimp only [Pt.U, Pt.locs, Pt.cells, Pt.slots] at Y' l' k'' n'' st' B
  subst l' k'' n''
  exact ((k v F' hQ').2 T' _ S Y' (N.app N') (A.back hF hG hN B (k v F' hQ').1)).via fun t q => st'.trans q
theorem own_nf (X : Cx p s m meth c Z y code maxL ret) {C : String} {y' : MethodName} (w5 : (Jvm.Cond.selects C y' y').before a0 Z = true) : NotFace s y' := notFace_of_selects (args := #[]) (mvT X.2.2.2.2.2.2.2 w5)
end Goes
/-! ## own kit, part 4: arrays; objects that stood at the start -/
section Arrs
variable {p : Program} {l : Launch} {e : Env} {R : Room} {s : State} {m : MethodId} {args : Array Value} {below : List Frame} {meth : Method} {c : Code} {Z : State} {a0 : Array Value} {h0 hS : Heap} {M : OMode} {s0 : State} {F0 : OHp} {rc rs : Nat} {Q : Option Value → OHp → Prop} {H : OHp} {cells slots : Nat} {y : MethodName} {code : ByteArray} {maxL : Nat} {ret : Option FieldType} {pc : Nat} {Ls : Array Slot} {st : List Value}
theorem Goes.newarr (X : Cx p s m meth c Z y code maxL ret) {aty : ArrayType} {n : Int32} (D : String) (nn cap : Nat) (w : (Jvm.Cond.arrayClass (newarray.typeOf aty)).before a0 Z = true) (hD : "[" ++ (newarray.typeOf aty).toString = D) (hn : ¬ n < 0) (hnn : n.toNatClampNeg = nn) (k : ∀ a, Goes p l e R s m args below meth c Z a0 M s0 h0 hS F0 rc rs Q (H ++ [(a, ar D (newarray.typeOf aty) (List.replicate nn (defaultValue (newarray.typeOf aty))))]) (cells + 1) (slots + cap) (mkF m (pc + 2) Ls (.ref a :: st))) (hd : oAt code pc (.newarray aty, 2) = true := by decide +kernel) (hcap : nn ≤ cap := by decide) (hb8 : cap * 8 ≤ 536870912 := by decide) (hc : cells + 1 ≤ R.cells := by decide) (hl : slots + cap ≤ R.slots := by decide) : Goes p l e R s m args below meth c Z a0 M s0 h0 hS F0 rc rs Q H cells slots (mkF m pc Ls (.int n :: st)) := fun T locs S Y N A => by
  have hZ := X.2.2.2.2.2.2.2
  have hcb : componentBytes (newarray.typeOf aty) ≤ 8 := by cases aty <;> decide
  subst hnn hD
  obtain ⟨cA, kA, comp, h1, h2, h3, Y', st'⟩ := Y.newarrayPrim X.1 (mvA hZ w) (g := mkF m pc Ls (.int n :: st)) rfl (hb X.2.1 (oAt.dec hd)) rfl hn (Nat.le_trans (Nat.mul_le_mul hcap hcb) hb8) hc (by omega)
  rw [hZ.alike.findClass] at h1
  obtain ⟨kZ, z1, -⟩ := Vm.findClass_spec h1
  obtain ⟨k', z2, z3⟩ := hZ.alike.2.2 _ _ z1
  cases h2.symm.trans z2
  refine (k T.heap.size _ locs S (Y'.more (Nat.le_refl _) (by omega)) N ?_).via st'
  refine A.new (ext_of fun a q => Array.getElem?_push_lt q |>.trans (Array.getElem?_eq_getElem q).symm) ?_
  refine ⟨newA cA (newarray.typeOf aty) n, ⟨?_, ⟨by simp [newA], kZ, z1, comp, by rw [← h3, z3]⟩, by simp [newA]⟩, ?_, ?_, Or.inr h1, ?_⟩
  · show (T.heap.push _)[T.heap.size]? = _; simp [newA]
  · simp [newA]
  · rw [List.length_replicate]; exact (back32 hn).2
  · intro v hv
    rw [List.eq_of_mem_replicate hv]
    cases aty <;> rfl
theorem Goes.anewarr (X : Cx p s m meth c Z y code maxL ret) {C : String} {index : Nat} {n : Int32} (D : String) (nn cap : Nat) (w : (Jvm.Cond.classLink y.cls index C).before a0 Z = true) (w2 : (Jvm.Cond.arrayOver (.object C)).before a0 Z = true) (hD : "[" ++ (FieldType.object C).toString = D) (hn : ¬ n < 0) (hnn : n.toNatClampNeg = nn) (k : ∀ a, Goes p l e R s m args below meth c Z a0 M s0 h0 hS F0 rc rs Q (H ++ [(a, ar D (.object C) (List.replicate nn .null))]) (cells + 1) (slots + cap) (mkF m (pc + 3) Ls (.ref a :: st))) (hd : oAt code pc (.anewarray index, 3) = true := by decide +kernel) (hcap : nn ≤ cap := by decide) (hb8 : cap * 8 ≤ 536870912 := by decide) (hc : cells + 1 ≤ R.cells := by decide) (hl : slots + cap ≤ R.slots := by decide) : Goes p l e R s m args below meth c Z a0 M s0 h0 hS F0 rc rs Q H cells slots (mkF m pc Ls (.int n :: st)) := fun T locs S Y N A => by
  have hZ := X.2.2.2.2.2.2.2
  subst hnn hD
  have w2' : (Jvm.Cond.arrayOver (.object C)).before args s = true := Cond.arrayOver_alike hZ.alike w2
  obtain ⟨vm₁, cA, kA, comp, -, h1, h2, h3, h4, Y', st'⟩ := Y.anewarrayRefK X.1 X.2.2.2.1 (mv hZ w) w2' (g := mkF m pc Ls (.int n :: st)) rfl (hb X.2.1 (oAt.dec hd)) rfl hn (by omega) hc (by omega)
  rw [hZ.alike.findClass] at h1
  obtain ⟨kZ, z1, -⟩ := Vm.findClass_spec h1
  obtain ⟨k', z2, z3⟩ := hZ.alike.2.2 _ _ z1
  cases h2.symm.trans z2
  refine (k T.heap.size _ locs S (Y'.more (Nat.le_refl _) (by omega)) N ?_).via st'
  refine A.new (ext_of fun a q => Array.getElem?_push_lt q |>.trans (Array.getElem?_eq_getElem q).symm) ?_
  refine ⟨newA cA (.object C) n, ⟨?_, ⟨by simp [newA], kZ, z1, comp, by rw [← h3, z3]⟩, by simp [newA]⟩, ?_, ?_, Or.inr h1, ?_⟩
  · show (T.heap.push _)[T.heap.size]? = _; simp [newA, defaultValue]
  · simp [newA, defaultValue]
  · rw [List.length_replicate]; exact (back32 hn).2
  · intro v hv
    rw [List.eq_of_mem_replicate hv]; rfl
theorem own_inb {cl : Cell} {vs : List Value} {j : Int32} {jn : Nat} (hs : cl.slots = vs.toArray) (hj : j.toNatClampNeg = jn) (h0 : ¬ j < 0) (hlt : jn < vs.length) : ¬ (j < 0 ∨ cl.slots.size ≤ j.toNatClampNeg) := by
  subst hj; rw [hs]; simp only [List.size_toArray]; rintro (q | q)
  · exact h0 q
  · omega
theorem own_get {cl : Cell} {vs : List Value} {j : Int32} {jn : Nat} {v : Value} (hs : cl.slots = vs.toArray) (hj : j.toNatClampNeg = jn) (hv : vs[jn]? = some v) : cl.slots[j.toNatClampNeg]? = some v := by
  rw [hs, hj]; simpa using hv
theorem Goes.alen (X : Cx p s m meth c Z y code maxL ret) (i : Nat) {a : Addr} {D : String} {ty : FieldType} {vs : List Value} {n : Int32} {tg : Nat} (hi : H[i]? = some (a, tg, Sum.inr (D, ty, vs))) (hn : vs.length.toInt32 = n) (k : Goes p l e R s m args below meth c Z a0 M s0 h0 hS F0 rc rs Q H cells slots (mkF m (pc + 1) Ls (.int n :: st))) (hd : oAt code pc (.arraylength, 1) = true := by decide +kernel) : Goes p l e R s m args below meth c Z a0 M s0 h0 hS F0 rc rs Q H cells slots (mkF m pc Ls (.ref a :: st)) := fun T locs S Y N A => by
  obtain ⟨cl, O, hs, -⟩ := A.at hi
  refine (k T locs S Y N A).via fun t q => Y.arraylength X.1 O.1 (State.isArrayOf_alike X.2.2.2.2.2.2.2.alike O.2.1) (g := mkF m pc Ls (.ref a :: st)) rfl rfl (hb X.2.1 (oAt.dec hd)) t ?_
  rw [hs, List.size_toArray, hn]; exact q
theorem Goes.caload (X : Cx p s m meth c Z y code maxL ret) (i jn : Nat) {a : Addr} {D : String} {vs : List Value} {j : Int32} {v : Value} {tg : Nat} (hi : H[i]? = some (a, tg, Sum.inr (D, .char, vs))) (hj : j.toNatClampNeg = jn) (hj0 : ¬ j < 0) (hv : vs[jn]? = some v) (k : Goes p l e R s m args below meth c Z a0 M s0 h0 hS F0 rc rs Q H cells slots (mkF m (pc + 1) Ls (v :: st))) (hd : oAt code pc (.caload, 1) = true := by decide +kernel) : Goes p l e R s m args below meth c Z a0 M s0 h0 hS F0 rc rs Q H cells slots (mkF m pc Ls (.int j :: .ref a :: st)) := fun T locs S Y N A => by
  obtain ⟨cl, O, hs, -⟩ := A.at hi
  exact (k T locs S Y N A).via fun t q => Y.caload X.1 O.1 (State.isArrayOf_alike X.2.2.2.2.2.2.2.alike O.2.1) O.2.2 (own_inb hs hj hj0 (List.getElem?_eq_some_iff.mp hv).1) (own_get hs hj hv) (g := mkF m pc Ls (.int j :: .ref a :: st)) rfl rfl (hb X.2.1 (oAt.dec hd)) t q
theorem Goes.baload (X : Cx p s m meth c Z y code maxL ret) (i jn : Nat) {a : Addr} {D : String} {vs : List Value} {j : Int32} {v : Value} {tg : Nat} (hi : H[i]? = some (a, tg, Sum.inr (D, .byte, vs))) (hj : j.toNatClampNeg = jn) (hj0 : ¬ j < 0) (hv : vs[jn]? = some v) (k : Goes p l e R s m args below meth c Z a0 M s0 h0 hS F0 rc rs Q H cells slots (mkF m (pc + 1) Ls (v :: st))) (hd : oAt code pc (.baload, 1) = true := by decide +kernel) : Goes p l e R s m args below meth c Z a0 M s0 h0 hS F0 rc rs Q H cells slots (mkF m pc Ls (.int j :: .ref a :: st)) := fun T locs S Y N A => by
  obtain ⟨cl, O, hs, -⟩ := A.at hi
  exact (k T locs S Y N A).via fun t q => Y.baloadBytes X.1 O.1 (State.isArrayOf_alike X.2.2.2.2.2.2.2.alike O.2.1) O.2.2 (own_inb hs hj hj0 (List.getElem?_eq_some_iff.mp hv).1) (own_get hs hj hv) (g := mkF m pc Ls (.int j :: .ref a :: st)) rfl rfl (hb X.2.1 (oAt.dec hd)) t q
theorem Goes.aaload (X : Cx p s m meth c Z y code maxL ret) (i jn : Nat) {a : Addr} {D : String} {ty : FieldType} {vs : List Value} {j : Int32} {v : Value} {tg : Nat} (hi : H[i]? = some (a, tg, Sum.inr (D, ty, vs))) (hty : ty.isReference = true) (hj : j.toNatClampNeg = jn) (hj0 : ¬ j < 0) (hv : vs[jn]? = some v) (k : Goes p l e R s m args below meth c Z a0 M s0 h0 hS F0 rc rs Q H cells slots (mkF m (pc + 1) Ls (v :: st))) (hd : oAt code pc (.aaload, 1) = true := by decide +kernel) : Goes p l e R s m args below meth c Z a0 M s0 h0 hS F0 rc rs Q H cells slots (mkF m pc Ls (.int j :: .ref a :: st)) := fun T locs S Y N A => by
  obtain ⟨cl, O, hs, -⟩ := A.at hi
  exact (k T locs S Y N A).via fun t q => Y.aaload X.1 O.1 (State.isArrayOf_alike X.2.2.2.2.2.2.2.alike O.2.1) hty O.2.2 (own_inb hs hj hj0 (List.getElem?_eq_some_iff.mp hv).1) (own_get hs hj hv) (g := mkF m pc Ls (.int j :: .ref a :: st)) rfl rfl (hb X.2.1 (oAt.dec hd)) t q
theorem Goes.castore (X : Cx p s m meth c Z y code maxL ret) (i jn : Nat) {a : Addr} {D : String} {vs : List Value} {j x : Int32} (hi : H[i]? = some (a, ar D .char vs)) (hj : j.toNatClampNeg = jn) (hj0 : ¬ j < 0) (hlt : jn < vs.length) (k : Goes p l e R s m args below meth c Z a0 M s0 h0 hS F0 rc rs Q (H.set i (a, ar D .char (vs.set jn (.int (nar .char x))))) cells slots (mkF m (pc + 1) Ls st)) (hd : oAt code pc (.castore, 1) = true := by decide +kernel) : Goes p l e R s m args below meth c Z a0 M s0 h0 hS F0 rc rs Q H cells slots (mkF m pc Ls (.int x :: .int j :: .ref a :: st)) := fun T locs S Y N A => by
  have O := A.at hi
  obtain ⟨cl, O1, hs, -⟩ := A.at hi
  subst hj
  obtain ⟨T', h', Y', e', W, st'⟩ := stC Y X.1 X.2.2.2.2.2.2.2 rfl O1 (own_inb hs rfl hj0 hlt) (g := mkF m pc Ls (.int x :: .int j :: .ref a :: st)) rfl rfl (hb X.2.1 (oAt.dec hd))
  refine (k T' _ S Y' (Fr.snoc Y' N ((A.2.2.2.1 i _ hi).2.1 rfl).1) ?_).via st'
  rw [e']
  exact A.wr hi W (OKa.store O W (fits_nar_char x))
theorem Goes.bastore (X : Cx p s m meth c Z y code maxL ret) (i jn : Nat) {a : Addr} {D : String} {vs : List Value} {j x : Int32} (hi : H[i]? = some (a, ar D .byte vs)) (hj : j.toNatClampNeg = jn) (hj0 : ¬ j < 0) (hlt : jn < vs.length) (k : Goes p l e R s m args below meth c Z a0 M s0 h0 hS F0 rc rs Q (H.set i (a, ar D .byte (vs.set jn (.int (nar .byte x))))) cells slots (mkF m (pc + 1) Ls st)) (hd : oAt code pc (.bastore, 1) = true := by decide +kernel) : Goes p l e R s m args below meth c Z a0 M s0 h0 hS F0 rc rs Q H cells slots (mkF m pc Ls (.int x :: .int j :: .ref a :: st)) := fun T locs S Y N A => by
  have O := A.at hi
  obtain ⟨cl, O1, hs, -⟩ := A.at hi
  subst hj
  obtain ⟨T', h', Y', e', W, st'⟩ := stB Y X.1 X.2.2.2.2.2.2.2 rfl O1 (own_inb hs rfl hj0 hlt) (g := mkF m pc Ls (.int x :: .int j :: .ref a :: st)) rfl rfl (hb X.2.1 (oAt.dec hd))
  refine (k T' _ S Y' (Fr.snoc Y' N ((A.2.2.2.1 i _ hi).2.1 rfl).1) ?_).via st'
  rw [e']
  exact A.wr hi W (OKa.store O W (fits_nar_byte x))
theorem own_fitC {h : Heap} {a : Addr} {cl : Cell} {ty : FieldType} {vs : List Value} (O : Arr Z h a cl ty) (hs : cl.slots = vs.toArray) (hv : ∀ v ∈ vs, fits ty v = true) : FitC Z cl := fun i v q => by
  obtain ⟨-, k, hk, comp, hkind⟩ := O.2.1
  rw [hs] at q
  have q2 : v ∈ vs := List.mem_of_getElem? (by simpa using q)
  simp [State.fitsSlot, State.slotType?, hk, hkind, hv v q2]
theorem Goes.clone (X : Cx p s m meth c Z y code maxL ret) {index : Nat} (W : Nat) (i : Nat) (cap : Nat) {a : Addr} {D : String} {ty : FieldType} {vs : List Value} (w1 : (Jvm.Cond.methodLink y.cls index ⟨D, "clone", "()Ljava/lang/Object;"⟩).before a0 Z = true) (w2 : (Jvm.Cond.sameMethod D "java/lang/Object" "clone" "()Ljava/lang/Object;").before a0 Z = true) (w3 : (Jvm.Cond.native ⟨"java/lang/Object", "clone", "()Ljava/lang/Object;"⟩).before a0 Z = true) (w4 : (Jvm.Cond.instanceMethod ⟨"java/lang/Object", "clone", "()Ljava/lang/Object;"⟩).before a0 Z = true) (w5 : (Jvm.Cond.selects D ⟨D, "clone", "()Ljava/lang/Object;"⟩ ⟨"java/lang/Object", "clone", "()Ljava/lang/Object;"⟩).before a0 Z = true) (w6 : (Jvm.Cond.castable D "java/lang/Cloneable").before a0 Z = true) {tg : Nat} (hi : H[i]? = some (a, tg, Sum.inr (D, ty, vs))) (hsize : Ls.size = maxL) (k : ∀ b, Goes p l e R s m args below meth c Z a0 M s0 h0 hS F0 rc rs Q (H ++ [(b, ar D ty vs)]) (cells + 1) (slots + cap) (mkF m (pc + 3) Ls (.ref b :: st))) (hDn : D ≠ "" := by decide) (hd : oAt code pc (.invokevirtual index, 3) = true := by decide +kernel) (hf : 1 ≤ R.frames := by decide) (hW : (st.map fun v => v.category).sum = W := by rfl) (hl : W + 14 ≤ R.locals := by decide) (hcap : vs.length ≤ cap := by decide) (hc : cells + 1 ≤ R.cells := by decide) (hsl : slots + cap ≤ R.slots := by decide) : Goes p l e R s m args below meth c Z a0 M s0 h0 hS F0 rc rs Q H cells slots (mkF m pc Ls (.ref a :: st)) := fun T locs S Y N A => by
  have E := (A.at hi : OKa Z T.heap a D ty vs).exa hDn
  obtain ⟨cl, O1, hs, hlen, hfc, hv⟩ := A.at hi
  subst hW
  obtain ⟨T', h', Y', e', E', A', X', st'⟩ := cloneA Y X.1 X.2.2.2.2.2.2.2 X.2.2.2.1 w1 w2 w3 w4 w5 w6 rfl O1 E (own_fitC O1 hs hv) (g := mkF m pc Ls (.ref a :: st)) rfl (hsize.trans X.2.2.1.symm) rfl (hb X.2.1 (oAt.dec hd)) hf (W := (st.map fun v => v.category).sum) (cap := cap) (by show 2 * 0 + _ ≤ _; omega) hl (by rw [hs, List.size_toArray]; exact hcap) hc hsl
  refine (k T.heap.size T' locs S Y' N ?_).via st'
  rw [e']
  exact A.new E' ⟨_, A', hs, hlen, hfc, hv⟩
theorem Goes.castA (X : Cx p s m meth c Z y code maxL ret) {K : String} {index : Nat} (i : Nat) {a : Addr} {D : String} {ty : FieldType} {vs : List Value} (w : (Jvm.Cond.classLink y.cls index K).before a0 Z = true) (wc : (Jvm.Cond.castable D K).before a0 Z = true) {tg : Nat} (hi : H[i]? = some (a, tg, Sum.inr (D, ty, vs))) (k : Goes p l e R s m args below meth c Z a0 M s0 h0 hS F0 rc rs Q H cells slots (mkF m (pc + 3) Ls (.ref a :: st))) (hDn : D ≠ "" := by decide) (hd : oAt code pc (.checkcast index, 3) = true := by decide +kernel) : Goes p l e R s m args below meth c Z a0 M s0 h0 hS F0 rc rs Q H cells slots (mkF m pc Ls (.ref a :: st)) := fun T locs S Y N A => by
  have E := (A.at hi : OKa Z T.heap a D ty vs).exa hDn
  obtain ⟨T', Y', e', st'⟩ := castY Y X.1 X.2.2.2.2.2.2.2 X.2.2.2.1 w rfl (Ins.of_exa E wc) (g := mkF m pc Ls (.ref a :: st)) rfl rfl (hb X.2.1 (oAt.dec hd))
  exact (k T' locs S Y' N (by rw [e']; exact A)).via st'
theorem Goes.castO (X : Cx p s m meth c Z y code maxL ret) {K : String} {index : Nat} (i : Nat) {a : Addr} {C : String} {fs : List OFld} (w : (Jvm.Cond.classLink y.cls index K).before a0 Z = true) (wc : (Jvm.Cond.castable C K).before a0 Z = true) {tg : Nat} (hi : H[i]? = some (a, tg, Sum.inl (C, fs))) (k : Goes p l e R s m args below meth c Z a0 M s0 h0 hS F0 rc rs Q H cells slots (mkF m (pc + 3) Ls (.ref a :: st))) (hd : oAt code pc (.checkcast index, 3) = true := by decide +kernel) : Goes p l e R s m args below meth c Z a0 M s0 h0 hS F0 rc rs Q H cells slots (mkF m pc Ls (.ref a :: st)) := fun T locs S Y N A => by
  obtain ⟨T', Y', e', st'⟩ := castY Y X.1 X.2.2.2.2.2.2.2 X.2.2.2.1 w rfl (Ins.of_exa (A.at hi).1 wc) (g := mkF m pc Ls (.ref a :: st)) rfl rfl (hb X.2.1 (oAt.dec hd))
  exact (k T' locs S Y' N (by rw [e']; exact A)).via st'
/-- a field of an object that stood at the start -/
theorem Goes.getFo (X : Cx p s m meth c Z y code maxL ret) {R0 O n d : String} {index : Nat} {a : Addr} {v : Value} (w : (Jvm.Cond.fieldLink y.cls index R0 n d).before a0 Z = true) (via : Via Z R0 O n d) (F : Fld Z h0 a O n d v) (k : Goes p l e R s m args below meth c Z a0 M s0 h0 hS F0 rc rs Q H cells slots (mkF m (pc + 3) Ls (v :: st))) (hd : oAt code pc (.getfield index, 3) = true := by decide +kernel) : Goes p l e R s m args below meth c Z a0 M s0 h0 hS F0 rc rs Q H cells slots (mkF m pc Ls (.ref a :: st)) := fun T locs S Y N A => by
  obtain ⟨T', Y', e', st'⟩ := RoadKit.getF Y X.1 X.2.2.2.2.2.2.2 (host := "") X.2.2.2.1 (Or.inl w) via rfl (F.ext A.1) (g := mkF m pc Ls (.ref a :: st)) rfl rfl (hb X.2.1 (oAt.dec hd))
  exact (k T' locs S Y' N (by rw [e']; exact A)).via st'
/-- a virtual call on an object that stood at the start -/
theorem Goes.callVo (X : Cx p s m meth c Z y code maxL ret) {index : Nat} {y' z' : MethodName} {code' : ByteArray} {maxL' : Nat} {ret' : Option FieldType} {rm : Room} {argsL : List Value} {a : Addr} {C : String} {F G : OHp} {Q' : Option Value → OHp → Prop} (W : Nat) (ix rx : List Nat) (E : Exa Z h0 a C) (D : Does l Z a0 h0 z' code' maxL' ret' rm (.ref a :: argsL).toArray F Q') (w1 : (Jvm.Cond.methodLink y.cls index y').before a0 Z = true) (w2 : (Jvm.Cond.declares y').before a0 Z = true) (w5 : (Jvm.Cond.selects C y' z').before a0 Z = true) (w6 : (Jvm.Cond.instanceMethod z').before a0 Z = true) (nf : NotFace s y') (w3 : (Jvm.Cond.initialized z'.cls).before a0 Z = true) (w4 : (Jvm.Cond.code z' code' maxL' ret').before a0 Z = true) {ps : List FieldType} {r : Option FieldType} (hpd : parseMethodDescriptor y'.desc = some ⟨ps, r⟩) (hlen : argsL.length = ps.length) {stk : List Value} (hstk : stk = argsL.reverse ++ .ref a :: st) (hsize : Ls.size = maxL) (hF : ix.map (fun i => H[i]?) = F.map some) (hG : rx.map (fun i => H[i]?) = G.map some) (k : ∀ v F', Q' v F' → own_tg F F' G ∧ Goes p l e R s m args below meth c Z a0 M s0 h0 hS F0 rc rs Q (F' ++ G) (cells + rm.cells) (slots + rm.slots) (mkF m (pc + 3) Ls (v.toList ++ st))) (hy : y'.cls ≠ "java/lang/invoke/MethodHandle" ∧ y'.cls ≠ "java/lang/invoke/VarHandle" := by decide) (hN : (ix ++ rx).Nodup := by decide) (hd : oAt code pc (.invokevirtual index, 3) = true := by decide +kernel) (hfr : rm.frames + 1 ≤ R.frames := by decide) (hW : (st.map fun v => v.category).sum = W := by rfl) (hlo : W + (maxL' + 11) + rm.locals ≤ R.locals := by decide) (hce : cells + rm.cells ≤ R.cells := by decide) (hsl : slots + rm.slots ≤ R.slots := by decide) : Goes p l e R s m args below meth c Z a0 M s0 h0 hS F0 rc rs Q H cells slots (mkF m pc Ls stk) := fun T locs S Y N A => by
  subst hstk hW
  have NN := List.nodup_append.mp hN
  obtain ⟨cq, kq, qa, qb, qc⟩ := isOf (T := T) X.2.2.2.2.2.2.2 rfl (E.ext A.1)
  obtain ⟨v, vm1, ⟨T', L', k', n'⟩, -, Y', ⟨Lc, ⟨N', F', hQ', B⟩, l', k'', n''⟩, st'⟩ := Y.virtualBack X.1 (y := y') (z := z') X.2.2.2.1 (mvT X.2.2.2.2.2.2.2 w1) (mvT X.2.2.2.2.2.2.2 w2) nf (mvT X.2.2.2.2.2.2.2 w5) (mvT X.2.2.2.2.2.2.2 w6) hy
    (backOf (W := (st.map fun v => v.category).sum) (Q := fun v h' L => Fr h0.size L ∧ ∃ F', Q' v F' ∧ Hp Z a0 none h0 T.heap F h' F') (D [] T.heap ((A.sub ix hF NN.1).enter)) X.2.2.2.2.2.2.2 w4 w3 hfr hlo) qa qc (g := mkF m pc Ls (argsL.reverse ++ .ref a :: st)) rfl (hsize.trans X.2.2.1.symm) (Steps.refl _) (argsL := argsL) (rest := st) (lenOf hpd hlen) rfl (by show 2 * 0 + _ ≤ _; omega) (hb X.2.1 (oAt.dec hd)) (fun _ _ => ⟨rfl, rfl, hce, hsl⟩)
  dsimp only [Pt.U, Pt.locs, Pt.cells, Pt.slots] at Y' l' k'' n'' st' B
  subst l' k'' n''
  exact ((k v F' hQ').2 T' _ S Y' (N.app N') (A.back hF hG hN B (k v F' hQ').1)).via fun t q => st'.trans q
end Arrs
/-! ## own kit, part 5: own, interface and nest calls -/
section Calls
variable {p : Program} {l : Launch} {e : Env} {R : Room} {s : State} {m : MethodId} {args : Array Value} {below : List Frame} {meth : Method} {c : Code} {Z : State} {a0 : Array Value} {h0 hS : Heap} {M : OMode} {s0 : State} {F0 : OHp} {rc rs : Nat} {Q : Option Value → OHp → Prop} {H : OHp} {cells slots : Nat} {y : MethodName} {code : ByteArray} {maxL : Nat} {ret : Option FieldType} {pc : Nat} {Ls : Array Slot} {st : List Value}
theorem nf_inst (X : Cx p s m meth c Z y code maxL ret) {y' : MethodName} {n : Nat} (w : (Jvm.Cond.instantiable y'.cls n).before a0 Z = true) : NotFace s y' := fun r0 hn => by
  obtain ⟨c2, k2, i1, i2, -, i4, -⟩ := Cond.instantiable_spec (mvT (args := #[]) X.2.2.2.2.2.2.2 w)
  have hc := findClass_of_methodNamed hn
  cases hc.symm.trans i1
  refine ⟨k2, i2, ?_⟩
  cases q : k2.isInterface
  · rfl
  · rw [q] at i4; cases i4
theorem Goes.callP (X : Cx p s m meth c Z y code maxL ret) {index : Nat} {y' : MethodName} {code' : ByteArray} {maxL' : Nat} {ret' : Option FieldType} {rm : Room} {argsL : List Value} {a : Addr} {C : String} {F G : OHp} {Q' : Option Value → OHp → Prop} (W : Nat) (i : Nat) (ix rx : List Nat) {fs : List OFld} {tg : Nat} (hi : H[i]? = some (a, tg, Sum.inl (C, fs))) (D : Does l Z a0 h0 y' code' maxL' ret' rm (.ref a :: argsL).toArray F Q') (w1 : (Jvm.Cond.methodLink y.cls index y').before a0 Z = true) (w2 : (Jvm.Cond.instanceMethod y').before a0 Z = true) (w5 : (Jvm.Cond.privateMethod y').before a0 Z = true) (nf : NotFace s y') (w3 : (Jvm.Cond.initialized y'.cls).before a0 Z = true) (w4 : (Jvm.Cond.code y' code' maxL' ret').before a0 Z = true) {ps : List FieldType} {r : Option FieldType} (hpd : parseMethodDescriptor y'.desc = some ⟨ps, r⟩) (hlen : argsL.length = ps.length) {stk : List Value} (hstk : stk = argsL.reverse ++ .ref a :: st) (hsize : Ls.size = maxL) (hF : ix.map (fun i => H[i]?) = F.map some) (hG : rx.map (fun i => H[i]?) = G.map some) (k : ∀ v F', Q' v F' → own_tg F F' G ∧ Goes p l e R s m args below meth c Z a0 M s0 h0 hS F0 rc rs Q (F' ++ G) (cells + rm.cells) (slots + rm.slots) (mkF m (pc + 3) Ls (v.toList ++ st))) (hy : y'.cls ≠ "java/lang/invoke/MethodHandle" ∧ y'.cls ≠ "java/lang/invoke/VarHandle" := by decide) (hN : (ix ++ rx).Nodup := by decide) (hd : oAt code pc (.invokevirtual index, 3) = true := by decide +kernel) (hfr : rm.frames + 1 ≤ R.frames := by decide) (hW : (st.map fun v => v.category).sum = W := by rfl) (hlo : W + (maxL' + 11) + rm.locals ≤ R.locals := by decide) (hce : cells + rm.cells ≤ R.cells := by decide) (hsl : slots + rm.slots ≤ R.slots := by decide) : Goes p l e R s m args below meth c Z a0 M s0 h0 hS F0 rc rs Q H cells slots (mkF m pc Ls stk) := fun T locs S Y N A => by
  subst hstk hW
  have NN := List.nodup_append.mp hN
  have hZ := X.2.2.2.2.2.2.2
  obtain ⟨cell, hcell, hobj⟩ := (A.at hi : OKo Z a0 T.heap a C fs).1.cell
  obtain ⟨mk, methM, hnamed, hmethM, hstM, habM⟩ := Cond.instanceMethod_spec (mvT (args := args) hZ w2)
  obtain ⟨methM', cM, hmethM', -, -, -, -, -, -, hsigM⟩ := Cond.code_spec hnamed (mvT (args := args) hZ w4)
  cases hmethM.symm.trans hmethM'
  obtain ⟨kP, hkP, hkPi⟩ := nf mk hnamed
  have hpriv : s.PrivateAt y' := Cond.privateMethod_at (mvP hZ w5 (args := #[]))
  have hselP : selectMethod e.platform s.vm cell.cls mk = .method mk := selectMethod_private hmethM (hpriv mk methM hnamed hmethM)
  obtain ⟨vm₁, X₁, hstep₁⟩ := Y.invokevirtual X.1 X.2.2.2.1 (mvT (args := args) hZ w1) hnamed hmethM hstM hkP hkPi hy (a := a) (cell := cell) hcell hobj hselP hmethM habM hkP hkPi (g := mkF m pc Ls (argsL.reverse ++ .ref a :: st)) rfl (argsL := argsL) (rest := st) (lenOf hpd hlen _ hsigM) rfl (hb X.2.1 (oAt.dec hd))
  obtain ⟨v, ⟨T', L', k', n'⟩, Y', ⟨Lc, ⟨N', F', hQ', B⟩, l', k'', n''⟩, st'⟩ := (backOf (args := args) (W := (st.map fun v => v.category).sum) (Q := fun v h' L => Fr h0.size L ∧ ∃ F', Q' v F' ∧ Hp Z a0 none h0 T.heap F h' F') (D [] T.heap ((A.sub ix hF NN.1).enter)) hZ w4 w3 hfr hlo) m meth c ⟨T.setVm vm₁, locs, cells, slots⟩ (mkF m pc Ls st) (.invokevirtual index) mk (.ref a :: argsL).toArray X₁ rfl (hsize.trans X.2.2.1.symm) (hb X.2.1 (oAt.dec hd)) (by show 2 * 0 + (st.map fun v => v.category).sum ≤ _; omega) (X₁.named hnamed) ⟨rfl, rfl, hce, hsl⟩
  dsimp only [Pt.U, Pt.locs, Pt.cells, Pt.slots] at Y' l' k'' n'' st' B
  subst l' k'' n''
  exact ((k v F' hQ').2 T' _ S Y' (N.app N') (A.back hF hG hN B (k v F' hQ').1)).via fun t q => (hstep₁ _ fun acts => by rw [doInvoke_state]; exact Steps.refl _).trans (st'.trans q)
theorem Goes.callI (X : Cx p s m meth c Z y code maxL ret) {index count : Nat} {xi z' : MethodName} {code' : ByteArray} {maxL' : Nat} {ret' : Option FieldType} {rm : Room} {argsL : List Value} {a : Addr} {C : String} {F G : OHp} {Q' : Option Value → OHp → Prop} (W : Nat) (i : Nat) (ix rx : List Nat) {fs : List OFld} {tg : Nat} (hi : H[i]? = some (a, tg, Sum.inl (C, fs))) (D : Does l Z a0 h0 z' code' maxL' ret' rm (.ref a :: argsL).toArray F Q') (w1 : (Jvm.Cond.methodLink y.cls index xi).before a0 Z = true) (w2 : (Jvm.Cond.declares xi).before a0 Z = true) (w5 : (Jvm.Cond.interfaceMethod xi.cls xi.cls xi.name xi.desc).before a0 Z = true) (w6 : (Jvm.Cond.selects C xi z').before a0 Z = true) (w7 : (Jvm.Cond.instanceMethod z').before a0 Z = true) (w8 : (Jvm.Cond.publicMethod z').before a0 Z = true) (w9 : (Jvm.Cond.unhidden C xi.name xi.desc).before a0 Z = true) (w10 : (Jvm.Cond.castable C xi.cls).before a0 Z = true) (w3 : (Jvm.Cond.initialized z'.cls).before a0 Z = true) (w4 : (Jvm.Cond.code z' code' maxL' ret').before a0 Z = true) {ps : List FieldType} {r : Option FieldType} (hpd : parseMethodDescriptor xi.desc = some ⟨ps, r⟩) (hlen : argsL.length = ps.length) {stk : List Value} (hstk : stk = argsL.reverse ++ .ref a :: st) (hsize : Ls.size = maxL) (hF : ix.map (fun i => H[i]?) = F.map some) (hG : rx.map (fun i => H[i]?) = G.map some) (k : ∀ v F', Q' v F' → own_tg F F' G ∧ Goes p l e R s m args below meth c Z a0 M s0 h0 hS F0 rc rs Q (F' ++ G) (cells + rm.cells) (slots + rm.slots) (mkF m (pc + 5) Ls (v.toList ++ st))) (hy : xi.cls ≠ "java/lang/invoke/MethodHandle" ∧ xi.cls ≠ "java/lang/invoke/VarHandle" := by decide) (hN : (ix ++ rx).Nodup := by decide) (hfc : ((Jvm.Cond.interfaceMethod xi.cls xi.cls xi.name xi.desc).onTables && (Jvm.Cond.interfaceMethod xi.cls xi.cls xi.name xi.desc).keepsFace) = true := by rfl) (hd : oAt code pc (.invokeinterface index count, 5) = true := by decide +kernel) (hfr : rm.frames + 1 ≤ R.frames := by decide) (hW : (st.map fun v => v.category).sum = W := by rfl) (hlo : W + (maxL' + 11) + rm.locals ≤ R.locals := by decide) (hce : cells + rm.cells ≤ R.cells := by decide) (hsl : slots + rm.slots ≤ R.slots := by decide) : Goes p l e R s m args below meth c Z a0 M s0 h0 hS F0 rc rs Q H cells slots (mkF m pc Ls stk) := fun T locs S Y N A => by
  subst hstk hW
  have NN := List.nodup_append.mp hN
  have hZ := X.2.2.2.2.2.2.2
  obtain ⟨cq, kq, qa, qb, qc⟩ := isOf (T := T) hZ rfl (A.at hi).1
  obtain ⟨v, vm1, ⟨T', L', k', n'⟩, -, Y', ⟨Lc, ⟨N', F', hQ', B⟩, l', k'', n''⟩, st'⟩ := Y.interfaceBack X.1 (xi := xi) (y := z') X.2.2.2.1 (mvT hZ w1) (mvT hZ w2) (mvT hZ w5 hfc) (mvT hZ w6) (mvT hZ w7) (mvT hZ w8) (mvT hZ w9) (mvT hZ w10) hy
    (backOf (W := (st.map fun v => v.category).sum) (Q := fun v h' L => Fr h0.size L ∧ ∃ F', Q' v F' ∧ Hp Z a0 none h0 T.heap F h' F') (D [] T.heap ((A.sub ix hF NN.1).enter)) hZ w4 w3 hfr hlo) qa qb qc (g := mkF m pc Ls (argsL.reverse ++ .ref a :: st)) rfl (hsize.trans X.2.2.1.symm) (Steps.refl _) (argsL := argsL) (rest := st) (lenOf hpd hlen) rfl (by show 2 * 0 + _ ≤ _; omega) (hb X.2.1 (oAt.dec hd)) (fun _ _ => ⟨rfl, rfl, hce, hsl⟩)
  dsimp only [Pt.U, Pt.locs, Pt.cells, Pt.slots] at Y' l' k'' n'' st' B
  subst l' k'' n''
  exact ((k v F' hQ').2 T' _ S Y' (N.app N') (A.back hF hG hN B (k v F' hQ').1)).via fun t q => st'.trans q
theorem Goes.callSN (X : Cx p s m meth c Z y code maxL ret) {index : Nat} {host : String} {y' : MethodName} {code' : ByteArray} {maxL' : Nat} {ret' : Option FieldType} {rm : Room} {argsL : List Value} {F G : OHp} {Q' : Option Value → OHp → Prop} (W : Nat) (ix rx : List Nat) (D : Does l Z a0 h0 y' code' maxL' ret' rm argsL.toArray F Q') (w1 : (Jvm.Cond.methodLinkNest y.cls index y' host).before a0 Z = true) (w2 : (Jvm.Cond.static y').before a0 Z = true) (w3 : (Jvm.Cond.initialized y'.cls).before a0 Z = true) (w4 : (Jvm.Cond.code y' code' maxL' ret').before a0 Z = true) {ps : List FieldType} {r : Option FieldType} (hpd : parseMethodDescriptor y'.desc = some ⟨ps, r⟩) (hlen : argsL.length = ps.length) {stk : List Value} (hstk : stk = argsL.reverse ++ st) (hsize : Ls.size = maxL) (hF : ix.map (fun i => H[i]?) = F.map some) (hG : rx.map (fun i => H[i]?) = G.map some) (k : ∀ v F', Q' v F' → own_tg F F' G ∧ Goes p l e R s m args below meth c Z a0 M s0 h0 hS F0 rc rs Q (F' ++ G) (cells + rm.cells) (slots + rm.slots) (mkF m (pc + 3) Ls (v.toList ++ st))) (hy : y'.cls ≠ "java/lang/invoke/MethodHandle" ∧ y'.cls ≠ "java/lang/invoke/VarHandle" := by decide) (hN : (ix ++ rx).Nodup := by decide) (hd : oAt code pc (.invokestatic index, 3) = true := by decide +kernel) (hfr : rm.frames + 1 ≤ R.frames := by decide) (hW : (st.map fun v => v.category).sum = W := by rfl) (hlo : W + (maxL' + 11) + rm.locals ≤ R.locals := by decide) (hce : cells + rm.cells ≤ R.cells := by decide) (hsl : slots + rm.slots ≤ R.slots := by decide) : Goes p l e R s m args below meth c Z a0 M s0 h0 hS F0 rc rs Q H cells slots (mkF m pc Ls stk) := fun T locs S Y N A => by
  subst hstk hW
  have NN := List.nodup_append.mp hN
  have hZ := X.2.2.2.2.2.2.2
  obtain ⟨v, vm1, ⟨T', L', k', n'⟩, -, Y', ⟨Lc, ⟨N', F', hQ', B⟩, l', k'', n''⟩, st'⟩ := RoadKit.callSN Y X.1 (y := y') X.2.2.2.1 (Cond.methodLinkNest_wide hZ w1 :) (mvT hZ w2) (mvT hZ w3) (mvT hZ w4) hy
    (backOf (W := (st.map fun v => v.category).sum) (Q := fun v h' L => Fr h0.size L ∧ ∃ F', Q' v F' ∧ Hp Z a0 none h0 T.heap F h' F') (D [] T.heap ((A.sub ix hF NN.1).enter)) hZ w4 w3 hfr hlo) (g := mkF m pc Ls (argsL.reverse ++ st)) rfl (hsize.trans X.2.2.1.symm) (argsL := argsL) (rest := st) (lenOf hpd hlen) rfl (by show 2 * 0 + _ ≤ _; omega) (hb X.2.1 (oAt.dec hd)) (fun _ _ => ⟨rfl, rfl, hce, hsl⟩)
  dsimp only [Pt.U, Pt.locs, Pt.cells, Pt.slots] at Y' l' k'' n'' st' B
  subst l' k'' n''
  exact ((k v F' hQ').2 T' _ S Y' (N.app N') (A.back hF hG hN B (k v F' hQ').1)).via fun t q => st'.trans q
end Calls
section More
variable {p : Program} {l : Launch} {e : Env} {R : Room} {s : State} {m : MethodId} {args : Array Value} {below : List Frame} {meth : Method} {c : Code} {Z : State} {a0 : Array Value} {h0 hS : Heap} {M : OMode} {s0 : State} {F0 : OHp} {rc rs : Nat} {Q : Option Value → OHp → Prop} {H : OHp} {cells slots : Nat} {y : MethodName} {code : ByteArray} {maxL : Nat} {ret : Option FieldType} {pc : Nat} {Ls : Array Slot} {st : List Value}
theorem Goes.ldcJ (X : Cx p s m meth c Z y code maxL ret) {index : Nat} {v : Int64} (w : (Jvm.Cond.constantLong y.cls index v).before a0 Z = true) (k : Goes p l e R s m args below meth c Z a0 M s0 h0 hS F0 rc rs Q H cells slots (mkF m (pc + 3) Ls (.long v :: st))) (hd : oAt code pc (.ldc2_w index, 3) = true := by decide +kernel) : Goes p l e R s m args below meth c Z a0 M s0 h0 hS F0 rc rs Q H cells slots (mkF m pc Ls st) := fun T locs S Y N A =>
  (k T locs S Y N A).via fun t r => Y.ldc2J X.1 X.2.2.2.1 (mvT X.2.2.2.2.2.2.2 w) rfl (hb X.2.1 (oAt.dec hd)) r
/-- 'b ? 1 : 0' as javac writes it -/
theorem Goes.bool1 (X : Cx p s m meth c Z y code maxL ret) {cd : ClassFile.Cond} {o o2 : Int} {pc' pc2 : Nat} {x : Int32} (h1 : oAt code (pc + 3) (.iconst 1, 1) = true) (h2 : oAt code (pc + 4) (.goto o2, 3) = true) (h3 : oAt code pc' (.iconst 0, 1) = true) (h4 : pc' + 1 = pc2) (k : ∀ b : Int32, b = (if ifCond.holds cd x = true then 0 else 1) → Goes p l e R s m args below meth c Z a0 M s0 h0 hS F0 rc rs Q H cells slots (mkF m pc2 Ls (.int b :: st))) (hd : oAt code pc (.ifCond cd o, 3) = true := by decide +kernel) (ho : 0 ≤ (pc : Int) + o := by decide) (hp : ((pc : Int) + o).toNat = pc' := by decide) (ho2 : 0 ≤ ((pc + 4 : Nat) : Int) + o2 := by decide) (hp2 : (((pc + 4 : Nat) : Int) + o2).toNat = pc2 := by decide) : Goes p l e R s m args below meth c Z a0 M s0 h0 hS F0 rc rs Q H cells slots (mkF m pc Ls (.int x :: st)) := by
  subst h4
  refine Goes.if1 X (fun q => ?_) (fun q => ?_) hd ho hp
  · exact Goes.run X [(.iconst 0, 1)] rfl (k 0 (by rw [if_pos q])) (by simp [oBlk, h3]) rfl
  · exact Goes.run X [(.iconst 1, 1)] rfl (Goes.goto X (k 1 (by rw [if_neg (by rw [q]; simp)])) h2 ho2 hp2) (by simp [oBlk, h1]) rfl
end More
section Up
variable {p : Program} {l : Launch} {e : Env} {R : Room} {s : State} {m : MethodId} {args : Array Value} {below : List Frame} {meth : Method} {c : Code} {Z : State} {a0 : Array Value} {h0 hS : Heap} {M : OMode} {s0 : State} {F0 : OHp} {rc rs : Nat} {Q : Option Value → OHp → Prop} {H : OHp} {cells slots : Nat} {y : MethodName} {code : ByteArray} {maxL : Nat} {ret : Option FieldType} {pc : Nat} {Ls : Array Slot} {st : List Value}
theorem Goes.tsw (X : Cx p s m meth c Z y code maxL ret) {dflt low high : Int} {offs : Array Int} {len pc' : Nat} {o : Int} {i : Int32} (hin : ¬ (i.toInt < low ∨ i.toInt > high)) (hoff : offs[(i.toInt - low).toNat]? = some o) (k : Goes p l e R s m args below meth c Z a0 M s0 h0 hS F0 rc rs Q H cells slots (mkF m pc' Ls st)) (hd : oAt code pc (.tableswitch dflt low high offs, len) = true := by decide +kernel) (ho : 0 ≤ (pc : Int) + o := by decide) (hp : ((pc : Int) + o).toNat = pc' := by decide) : Goes p l e R s m args below meth c Z a0 M s0 h0 hS F0 rc rs Q H cells slots (mkF m pc Ls (.int i :: st)) := fun T locs S Y N A =>
  (k T locs S Y N A).via fun t r => XS.tswIn Y.here X.1 rfl (pc0 := pc) rfl (hb X.2.1 (oAt.dec hd)) rfl hin hoff ho hp r
/-- super.m(..) -/
theorem Goes.callU (X : Cx p s m meth c Z y code maxL ret) {index : Nat} {y' : MethodName} {code' : ByteArray} {maxL' : Nat} {ret' : Option FieldType} {rm : Room} {argsL : List Value} {a : Addr} {C : String} {F G : OHp} {Q' : Option Value → OHp → Prop} (W : Nat) (i : Nat) (ix rx : List Nat) {fs : List OFld} {tg : Nat} (hi : H[i]? = some (a, tg, Sum.inl (C, fs))) (D : Does l Z a0 h0 y' code' maxL' ret' rm (.ref a :: argsL).toArray F Q') (w1 : (Jvm.Cond.methodLink y.cls index y').before a0 Z = true) (w2 : (Jvm.Cond.instanceMethod y').before a0 Z = true) (w5 : (Jvm.Cond.superclass y.cls y'.cls).before a0 Z = true) (w6 : (Jvm.Cond.sameMethod y'.cls y'.cls y'.name y'.desc).before a0 Z = true) (hn : y'.name ≠ "<init>") (w3 : (Jvm.Cond.initialized y'.cls).before a0 Z = true) (w4 : (Jvm.Cond.code y' code' maxL' ret').before a0 Z = true) {ps : List FieldType} {r : Option FieldType} (hpd : parseMethodDescriptor y'.desc = some ⟨ps, r⟩) (hlen : argsL.length = ps.length) {stk : List Value} (hstk : stk = argsL.reverse ++ .ref a :: st) (hsize : Ls.size = maxL) (hF : ix.map (fun i => H[i]?) = F.map some) (hG : rx.map (fun i => H[i]?) = G.map some) (k : ∀ v F', Q' v F' → own_tg F F' G ∧ Goes p l e R s m args below meth c Z a0 M s0 h0 hS F0 rc rs Q (F' ++ G) (cells + rm.cells) (slots + rm.slots) (mkF m (pc + 3) Ls (v.toList ++ st))) (hN : (ix ++ rx).Nodup := by decide) (hd : oAt code pc (.invokespecial index, 3) = true := by decide +kernel) (hfr : rm.frames + 1 ≤ R.frames := by decide) (hW : (st.map fun v => v.category).sum = W := by rfl) (hlo : W + (maxL' + 11) + rm.locals ≤ R.locals := by decide) (hce : cells + rm.cells ≤ R.cells := by decide) (hsl : slots + rm.slots ≤ R.slots := by decide) : Goes p l e R s m args below meth c Z a0 M s0 h0 hS F0 rc rs Q H cells slots (mkF m pc Ls stk) := fun T locs S Y N A => by
  subst hstk hW
  have NN := List.nodup_append.mp hN
  have hZ := X.2.2.2.2.2.2.2
  obtain ⟨v, vm1, ⟨T', L', k', n'⟩, -, Y', ⟨Lc, ⟨N', F', hQ', B⟩, l', k'', n''⟩, st'⟩ := superBack Y X.1 hZ (y := y') X.2.2.2.1 w1 w6 w2 w5 hn
    (backOf (W := (st.map fun v => v.category).sum) (Q := fun v h' L => Fr h0.size L ∧ ∃ F', Q' v F' ∧ Hp Z a0 none h0 T.heap F h' F') (D [] T.heap ((A.sub ix hF NN.1).enter)) hZ w4 w3 hfr hlo) rfl (Ins.self (A.at hi : OKo Z a0 T.heap a C fs).1) (g := mkF m pc Ls (argsL.reverse ++ .ref a :: st)) rfl (hsize.trans X.2.2.1.symm) w4 (argsL := argsL) (rest := st) (lenOf hpd hlen) rfl (by show 2 * 0 + _ ≤ _; omega) (hb X.2.1 (oAt.dec hd)) (fun _ _ => ⟨rfl, rfl, hce, hsl⟩)
  dsimp only [Pt.U, Pt.locs, Pt.cells, Pt.slots] at Y' l' k'' n'' st' B
  subst l' k'' n''
  exact ((k v F' hQ').2 T' _ S Y' (N.app N') (A.back hF hG hN B (k v F' hQ').1)).via fun t q => st'.trans q
/-- one that some 'selects' word shows to be no interface finds its own method -/
theorem own_same {C : String} {y1 z1 y' : MethodName} (w1 : (Jvm.Cond.selects C z1 y1).before a0 Z = true) (hc : y1.cls = y'.cls) (w2 : (Jvm.Cond.instanceMethod y').before a0 Z = true) (hx : y'.cls ≠ "java/lang/invoke/MethodHandle" ∧ y'.cls ≠ "java/lang/invoke/VarHandle") : (Jvm.Cond.sameMethod y'.cls y'.cls y'.name y'.desc).before a0 Z = true := by
  obtain ⟨c1, r1, m1, -, -, q3, -, kP, hkP, hkPi⟩ := Cond.selects_spec w1
  obtain ⟨mk, methM, hnamed, hmethM, hstM, habM⟩ := Cond.instanceMethod_spec w2
  have e1 := findClass_of_methodNamed q3
  have e2 := findClass_of_methodNamed hnamed
  rw [hc] at e1
  have e3 : m1.cls = mk.cls := Option.some.inj (e1.symm.trans e2)
  rw [e3] at hkP
  have hf := State.methodFound?_of_named hnamed hx
  have hnamed' : Z.methodNamed? ⟨y'.cls, y'.name, y'.desc⟩ = some mk := hnamed
  simp [Cond.before, Cond.holds, Cond.value, e2, hkP, hkPi, hf, hnamed']
end Up
/-! ## own kit, wide form, part 6: String constants; callees that load them -/
section WideLaws
variable {p : Program} {l : Launch} {e : Env} {R : Room} {m : MethodId} {args : Array Value} {below : List Frame} {meth : Method} {c : Code} {Z : State} {a0 : Array Value} {EL : List (String × Nat)} {vmS vm0 vm1 : Vm} {k0 k1 : Nat} {s0 : State} {h0 hS h h' : Heap} {F0 : OHp} {rc rs : Nat} {Q : Option Value → OHp → Prop} {H : OHp} {cells slots : Nat} {y : MethodName} {code : ByteArray} {maxL : Nat} {ret : Option FieldType} {pc : Nat} {Ls : Array Slot} {st : List Value}
theorem Hp.enterW {F : OHp} (A : Hp Z a0 (some (EL, vmS, vm0, k0)) h0 hS F0 h F) : Hp Z a0 (some (EL, vm0, vm0, h.size)) h0 h F h F := by
  obtain ⟨E, K, ⟨w, hZ, C, hk⟩, G, I⟩ := A
  exact ⟨E, Keep.refl _ _, ⟨w, hZ, CHr.refl C.1, Nat.le_refl _⟩, fun i x hi => ⟨(G i x hi).1, fun t => ⟨((G i x hi).2.1 t).1, Or.inl (own_wsOf (List.mem_of_getElem? hi) t), ((G i x hi).2.1 t).2.2⟩, fun t => Or.inl (own_ksOf (List.mem_of_getElem? hi) (Or.inr t))⟩, I⟩
/-- other tables, the same heap -/
theorem Hp.vm (A : Hp Z a0 (some (EL, vmS, vm0, k0)) h0 hS F0 h H) (hZ : Z.Warmed39 vm1) (C : CHr Z EL vm0 h vm1 h) : Hp Z a0 (some (EL, vmS, vm1, k0)) h0 hS F0 h H := by
  obtain ⟨E, K, ⟨w, -, C0, hk⟩, F, I⟩ := A
  exact ⟨E, K, ⟨w, hZ, C0.trans C, hk⟩, fun i x hi => ⟨(F i x hi).1, fun t => ⟨((F i x hi).2.1 t).1, ((F i x hi).2.1 t).2.1, C.safe (F i x hi).1.lt ((F i x hi).2.1 t).2.2⟩, (F i x hi).2.2⟩, I⟩
theorem Hp.backW {F F' G : OHp} {ix rx : List Nat} (A : Hp Z a0 (some (EL, vmS, vm0, k0)) h0 hS F0 h H) (hF : ix.map (fun i => H[i]?) = F.map some) (hG : rx.map (fun i => H[i]?) = G.map some) (hN : (ix ++ rx).Nodup) (B : Hp Z a0 (some (EL, vm0, vm1, k1)) h0 h F h' F')
    (hT : own_tg F F' G) : Hp Z a0 (some (EL, vmS, vm1, h'.size)) h0 hS F0 h' (F' ++ G) := by
  have N := List.nodup_append.mp hN
  have AG := A.sub rx hG N.2.1
  have ws := own_wsSafe A hF
  have cr := own_cross (F' := F') A hF hG hN (fun x hx t => by obtain ⟨k, hk⟩ := List.mem_iff_getElem?.mp hx; exact ((B.2.2.2.1 k x hk).2.1 t).2.1) (fun x hx t => by obtain ⟨k, hk⟩ := List.mem_iff_getElem?.mp hx; exact (B.2.2.2.1 k x hk).2.2 t) hT
  have key : ∀ (k : Nat) (x : Addr × OObj), (F' ++ G)[k]? = some x → (k < F'.length ∧ F'[k]? = some x) ∨ (F'.length ≤ k ∧ G[k - F'.length]? = some x) := fun k x hk => by
    rw [List.getElem?_append] at hk
    split at hk
    · rename_i q; exact Or.inl ⟨q, hk⟩
    · rename_i q; exact Or.inr ⟨Nat.le_of_not_lt q, hk⟩
  refine ⟨B.1, A.2.1.trans B.2.1 fun x hx => (ws x hx).2.2, ⟨B.2.2.1.1, B.2.2.1.2.1, A.2.2.1.2.2.1.trans B.2.2.1.2.2.1, Nat.le_refl _⟩, fun k x hk => ?_, fun k1 k2 x y g1 g2 e t => ?_⟩
  · rcases key k x hk with ⟨-, q⟩ | ⟨-, q⟩
    · obtain ⟨r1, r2, r3⟩ := B.2.2.2.1 k x q
      refine ⟨r1, fun t => ⟨(r2 t).1, ?_, (r2 t).2.2⟩, fun t => (r3 t).elim (own_ks A hF _) fun z => Or.inr (Nat.le_trans A.2.1.1 z)⟩
      exact (r2 t).2.1.elim (fun z => (ws _ z).2.2) fun z => Or.inr (Nat.le_trans A.2.1.1 z)
    · obtain ⟨r1, r2, r3⟩ := AG.2.2.2.1 _ x q
      refine ⟨r1.keep B.2.1 fun z => ?_, fun t => ⟨(r2 t).1, (r2 t).2.1, B.2.2.1.2.2.1.safe r1.lt (r2 t).2.2⟩, r3⟩
      obtain ⟨w, hw, e, tw⟩ := own_wsOf_e z
      obtain ⟨k1, p1⟩ := List.mem_iff_getElem?.mp hw
      obtain ⟨i, pi, hi⟩ := own_pick hF k1 w p1
      obtain ⟨j, pj, hj⟩ := own_pick hG _ x q
      have := A.2.2.2.2 i j w x hi hj e (Or.inl tw)
      subst this
      exact N.2.2 i (List.mem_of_getElem? pi) i (List.mem_of_getElem? pj) rfl
  · rcases key k1 x g1 with ⟨l1, q1⟩ | ⟨l1, q1⟩ <;> rcases key k2 y g2 with ⟨l2, q2⟩ | ⟨l2, q2⟩
    · exact B.2.2.2.2 _ _ _ _ q1 q2 e t
    · exact absurd e (cr x (List.mem_of_getElem? q1) y (List.mem_of_getElem? q2) t)
    · exact absurd e.symm (cr y (List.mem_of_getElem? q2) x (List.mem_of_getElem? q1) t.symm)
    · have := AG.2.2.2.2 _ _ _ _ q1 q2 e t; omega
/-- the premise on a callee that loads constants, out of its contract -/
theorem own_backW {y' : MethodName} {code' : ByteArray} {maxL' : Nat} {ret' : Option FieldType} {rm : Room} {len W : Nat} {as' : Array Value} {F : OHp} {Q' : Option Value → OHp → Prop}
    (D : DoesW l Z a0 EL h0 y' code' maxL' ret' rm as' F Q') (A : Hp Z a0 (some (EL, vmS, vm0, k0)) h0 hS F0 h F) (wc : (Jvm.Cond.code y' code' maxL' ret').before a0 Z = true) (wz : (Jvm.Cond.initialized y'.cls).before a0 Z = true) (hf : rm.frames + 1 ≤ R.frames) (hl : W + (maxL' + 11) + rm.locals ≤ R.locals) :
    BackS l R p e below (s0.setVm vm0) args y' len W (fun P a => a = as' ∧ P.U.heap = h ∧ P.cells + rm.cells ≤ R.cells ∧ P.slots + rm.slots ≤ R.slots)
      (fun P _ v B => ∃ L, (Fr h0.size L ∧ ∃ F' k1, Q' v F' ∧ ∃ vmE, Z.Warmed39 vmE ∧ CHr Z EL vm0 h vmE h ∧ Hp Z a0 (some (EL, vmE, B.U.vm, k1)) h0 h F B.U.heap F') ∧ B.locs = P.locs ++ L ∧ B.cells = P.cells + rm.cells ∧ B.slots = P.slots + rm.slots) := by
  have hZ := A.2.2.1.2.1
  have w := A.2.2.1.1
  have H := A.2.2.1.2.2.1.1
  exact BackS.of_freeW (bytes := code') (maxL := maxL') (ret := ret') (E := fun _ first o t L k n => k = rm.cells ∧ n = rm.slots ∧ ∃ v, o = .returned v ∧ Fr h0.size L ∧ ∃ F' k1, Q' v F' ∧ Hp Z a0 (some (EL, first.vm, t.vm, k1)) h0 h F t.heap F') (D [] h) hf hl
    (fun m meth c P a Y hp => have hU : Z.Warmed39 P.U.vm := wtrans (s := s0.setVm vm0) hZ Y.warmed
      ⟨by show (Cond.and _ .tt).before a P.U = true; rw [Cond.before_and, mv hU wc]; rfl, mv hU wc, mv hU wz, hp.2.2.1, hp.2.2.2⟩)
    (fun m meth c P a g mk Y hp => ⟨hp.1, wtrans (s := s0.setVm vm0) hZ Y.warmed, hp.2.1, (A.vm (wtrans (s := s0.setVm vm0) hZ Y.warmed) (CHv.at Y hZ w H)).enterW⟩) (fun _ _ _ _ _ _ _ _ _ => trivial)
    (fun _ _ _ _ ⟨v, L, h1, h2, h3⟩ => ⟨L, _, _, h3, rfl, rfl, v, h1, h2⟩)
    (fun m meth c P a g mk v t L k n Y hp _ _ ⟨e1, e2, v', e3, e4, F', k1, e5, e6⟩ => by
      cases e3; subst e1 e2
      exact ⟨L, ⟨e4, F', k1, e5, P.U.vm, wtrans (s := s0.setVm vm0) hZ Y.warmed, CHv.at Y hZ w H, e6⟩, rfl, rfl, rfl⟩)
theorem own_cxW (X : Cx p (s0.setVm vm0) m meth c Z y code maxL ret) (hW : (s0.setVm vm0).Warmed39 vm1) (hZ : Z.Warmed39 vm1) : Cx p (s0.setVm vm1) m meth c Z y code maxL ret :=
  ⟨X.1, X.2.1, X.2.2.1, by show vm1.findClass y.cls = _; rw [hW.alike.findClass]; exact X.2.2.2.1, X.2.2.2.2.1, X.2.2.2.2.2.1, X.2.2.2.2.2.2.1, hZ⟩
/-- a static call of a method that loads constants -/
theorem Goes.callSW (X : Cx p (s0.setVm vm0) m meth c Z y code maxL ret) {index : Nat} {y' : MethodName} {code' : ByteArray} {maxL' : Nat} {ret' : Option FieldType} {rm : Room} {argsL : List Value} {F G : OHp} {Q' : Option Value → OHp → Prop} (W : Nat) (ix rx : List Nat) (D : DoesW l Z a0 EL h0 y' code' maxL' ret' rm argsL.toArray F Q') (w1 : (Jvm.Cond.methodLink y.cls index y').before a0 Z = true) (w2 : (Jvm.Cond.static y').before a0 Z = true) (w3 : (Jvm.Cond.initialized y'.cls).before a0 Z = true) (w4 : (Jvm.Cond.code y' code' maxL' ret').before a0 Z = true) {ps : List FieldType} {r : Option FieldType} (hpd : parseMethodDescriptor y'.desc = some ⟨ps, r⟩) (hlen : argsL.length = ps.length) {stk : List Value} (hstk : stk = argsL.reverse ++ st) (hsize : Ls.size = maxL) (hF : ix.map (fun i => H[i]?) = F.map some) (hG : rx.map (fun i => H[i]?) = G.map some)
    (k : ∀ v F' vm1 k1, Q' v F' → Cx p (s0.setVm vm1) m meth c Z y code maxL ret → own_tg F F' G ∧ Goes p l e R (s0.setVm vm1) m args below meth c Z a0 (some (EL, vmS, vm1, k1)) s0 h0 hS F0 rc rs Q (F' ++ G) (cells + rm.cells) (slots + rm.slots) (mkF m (pc + 3) Ls (v.toList ++ st))) (hy : y'.cls ≠ "java/lang/invoke/MethodHandle" ∧ y'.cls ≠ "java/lang/invoke/VarHandle" := by decide) (hN : (ix ++ rx).Nodup := by decide) (hd : oAt code pc (.invokestatic index, 3) = true := by decide +kernel) (hfr : rm.frames + 1 ≤ R.frames := by decide) (hW : (st.map fun v => v.category).sum = W := by rfl) (hlo : W + (maxL' + 11) + rm.locals ≤ R.locals := by decide) (hce : cells + rm.cells ≤ R.cells := by decide) (hsl : slots + rm.slots ≤ R.slots := by decide) :
    Goes p l e R (s0.setVm vm0) m args below meth c Z a0 (some (EL, vmS, vm0, k0)) s0 h0 hS F0 rc rs Q H cells slots (mkF m pc Ls stk) := fun T locs S Y N A => by
  subst hstk hW
  have NN := List.nodup_append.mp hN
  have hZ := X.2.2.2.2.2.2.2
  obtain ⟨mk, hnamed⟩ := Cond.code_named (mvT (args := args) hZ w4)
  obtain ⟨methM, cM, hmethM, -, -, -, -, -, -, hsig⟩ := Cond.code_spec hnamed (mvT (args := args) hZ w4)
  obtain ⟨v, vm1, ⟨T', L', k', n'⟩, hW1, Y', hSi, hgr, ⟨Lc, ⟨N', F', k1, hQ', vmE, hZE, hCE, B⟩, l', k'', n''⟩, st'⟩ := Y.staticBackS X.1 (y := y') X.2.2.2.1 (mvT hZ w1) (mvT hZ w2) (mvT hZ w3) hnamed hmethM hsig hy
    (own_backW D (A.sub ix hF NN.1) w4 w3 hfr hlo) (g := mkF m pc Ls (argsL.reverse ++ st)) rfl (hsize.trans X.2.2.1.symm) (Steps.refl _) (argsL := argsL) (rest := st) (lenOf hpd hlen) rfl (by show 2 * 0 + _ ≤ _; omega) (hb X.2.1 (oAt.dec hd)) (fun _ _ => ⟨rfl, rfl, hce, hsl⟩)
  dsimp only [Pt.U, Pt.locs, Pt.cells, Pt.slots] at Y' l' k'' n'' st' B hSi hgr
  subst l' k'' n''
  have K := k v F' T'.vm T'.heap.size hQ' (own_cxW X hSi.1 B.2.2.1.2.1)
  exact (K.2 T' _ ⟨rfl, S.2.trans hSi (Nat.le_trans A.2.2.1.2.2.2 hgr)⟩ Y' (N.app N') ((A.vm hZE hCE).backW hF hG hN B K.1)).via fun t q => st'.trans q
/-- a constructor's call that loads constants -/
theorem Goes.callNW (X : Cx p (s0.setVm vm0) m meth c Z y code maxL ret) {index : Nat} {y' : MethodName} {code' : ByteArray} {maxL' : Nat} {rm : Room} {argsL : List Value} {a : Addr} {F G : OHp} {Q' : Option Value → OHp → Prop} (W : Nat) (ix rx : List Nat) (D : DoesW l Z a0 EL h0 y' code' maxL' none rm (.ref a :: argsL).toArray F Q') (hy1 : y'.name = "<init>") (w1 : (Jvm.Cond.methodLink y.cls index y').before a0 Z = true) (w2 : (Jvm.Cond.instanceMethod y').before a0 Z = true) (w3 : (Jvm.Cond.initialized y'.cls).before a0 Z = true) (w4 : (Jvm.Cond.code y' code' maxL' none).before a0 Z = true) {ps : List FieldType} {r : Option FieldType} (hpd : parseMethodDescriptor y'.desc = some ⟨ps, r⟩) (hlen : argsL.length = ps.length) {stk : List Value} (hstk : stk = argsL.reverse ++ .ref a :: st) (hsize : Ls.size = maxL) (hF : ix.map (fun i => H[i]?) = F.map some) (hG : rx.map (fun i => H[i]?) = G.map some)
    (k : ∀ v F' vm1 k1, Q' v F' → Cx p (s0.setVm vm1) m meth c Z y code maxL ret → own_tg F F' G ∧ Goes p l e R (s0.setVm vm1) m args below meth c Z a0 (some (EL, vmS, vm1, k1)) s0 h0 hS F0 rc rs Q (F' ++ G) (cells + rm.cells) (slots + rm.slots) (mkF m (pc + 3) Ls (v.toList ++ st))) (hy : y'.cls ≠ "java/lang/invoke/MethodHandle" ∧ y'.cls ≠ "java/lang/invoke/VarHandle" := by decide) (hN : (ix ++ rx).Nodup := by decide) (hd : oAt code pc (.invokespecial index, 3) = true := by decide +kernel) (hfr : rm.frames + 1 ≤ R.frames := by decide) (hW : (st.map fun v => v.category).sum = W := by rfl) (hlo : W + (maxL' + 11) + rm.locals ≤ R.locals := by decide) (hce : cells + rm.cells ≤ R.cells := by decide) (hsl : slots + rm.slots ≤ R.slots := by decide) :
    Goes p l e R (s0.setVm vm0) m args below meth c Z a0 (some (EL, vmS, vm0, k0)) s0 h0 hS F0 rc rs Q H cells slots (mkF m pc Ls stk) := fun T locs S Y N A => by
  subst hstk hW
  have NN := List.nodup_append.mp hN
  have hZ := X.2.2.2.2.2.2.2
  obtain ⟨v, vm1, ⟨T', L', k', n'⟩, hW1, Y', hSi, hgr, ⟨Lc, ⟨N', F', k1, hQ', vmE, hZE, hCE, B⟩, l', k'', n''⟩, st'⟩ := Y.specialBackS X.1 (y := y') hy1 X.2.2.2.1 (mvT hZ w1) (mvT hZ w2) (mvT hZ w4) hy
    (own_backW D (A.sub ix hF NN.1) w4 w3 hfr hlo) (g := mkF m pc Ls (argsL.reverse ++ .ref a :: st)) rfl (hsize.trans X.2.2.1.symm) (Steps.refl _) (a := a) (argsL := argsL) (rest := st) (lenOf hpd hlen) rfl (by show 2 * 0 + _ ≤ _; omega) (hb X.2.1 (oAt.dec hd)) (fun _ _ => ⟨rfl, rfl, hce, hsl⟩)
  dsimp only [Pt.U, Pt.locs, Pt.cells, Pt.slots] at Y' l' k'' n'' st' B hSi hgr
  subst l' k'' n''
  have K := k v F' T'.vm T'.heap.size hQ' (own_cxW X hSi.1 B.2.2.1.2.1)
  exact (K.2 T' _ ⟨rfl, S.2.trans hSi (Nat.le_trans A.2.2.1.2.2.2 hgr)⟩ Y' (N.app N') ((A.vm hZE hCE).backW hF hG hN B K.1)).via fun t q => st'.trans q
end WideLaws
section Lits
variable {p : Program} {l : Launch} {e : Env} {R : Room} {m : MethodId} {args : Array Value} {below : List Frame} {meth : Method} {c : Code} {Z : State} {a0 : Array Value} {EL : List (String × Nat)} {vmS vm0 vm1 : Vm} {k0 k1 : Nat} {s0 : State} {h0 hS h h' : Heap} {F0 : OHp} {rc rs : Nat} {Q : Option Value → OHp → Prop} {H : OHp} {cells slots : Nat} {y : MethodName} {code : ByteArray} {maxL : Nat} {ret : Option FieldType} {pc : Nat} {Ls : Array Slot} {st : List Value}
theorem Hp.lit {L : OHp} (A : Hp Z a0 (some (EL, vmS, vm0, k0)) h0 hS F0 h H) (hZ1 : Z.Warmed39 vm1) (E' : Ext h h') (C : CHr Z EL vm0 h vm1 h') (hk : k1 ≤ h'.size) (hL : ∀ x ∈ L, OK Z a0 h' x.1 x.2 ∧ x.2.1 = 2 ∧ ∀ z, Safe Z EL vm1 h' z → z ≠ x.1) : Hp Z a0 (some (EL, vmS, vm1, k1)) h0 hS F0 h' (H ++ L) := by
  obtain ⟨E, K, ⟨w, hZ, C0, hk0⟩, F, I⟩ := A
  have sf : ∀ (i : Nat) (x : Addr × OObj), H[i]? = some x → x.2.1 = 0 → Safe Z EL vm1 h' x.1 := fun i x hi t => C.safe (F i x hi).1.lt ((F i x hi).2.1 t).2.2
  have key : ∀ (k : Nat) (x : Addr × OObj), (H ++ L)[k]? = some x → (k < H.length ∧ H[k]? = some x) ∨ (H.length ≤ k ∧ x ∈ L) := fun k x hk => by
    rw [List.getElem?_append] at hk
    split at hk
    · rename_i q; exact Or.inl ⟨q, hk⟩
    · rename_i q; exact Or.inr ⟨Nat.le_of_not_lt q, List.mem_of_getElem? hk⟩
  refine ⟨⟨Nat.le_trans E.1 E'.1, fun x c hx => E'.2 x c (E.2 x c hx)⟩, K.ext E', ⟨w, hZ1, C0.trans C, hk⟩, fun k x hk => ?_, fun i j x z hi hj e t => ?_⟩
  · rcases key k x hk with ⟨-, q⟩ | ⟨-, q⟩
    · obtain ⟨r1, r2, r3⟩ := F k x q
      exact ⟨r1.ext E', fun t => ⟨(r2 t).1, (r2 t).2.1, sf k x q t⟩, r3⟩
    · obtain ⟨r1, r2, -⟩ := hL x q
      exact ⟨r1, fun t => by rw [r2] at t; exact absurd t (by decide), fun t => by rw [r2] at t; exact absurd t (by decide)⟩
  · rcases key i x hi with ⟨-, q1⟩ | ⟨-, q1⟩ <;> rcases key j z hj with ⟨-, q2⟩ | ⟨-, q2⟩
    · exact I i j x z q1 q2 e t
    · have t2 := (hL z q2).2.1
      have tx : x.2.1 = 0 := t.resolve_right (by rw [t2]; decide)
      exact absurd e ((hL z q2).2.2 _ (sf i x q1 tx))
    · have t2 := (hL x q1).2.1
      have tz : z.2.1 = 0 := t.resolve_left (by rw [t2]; decide)
      exact absurd e.symm ((hL x q1).2.2 _ (sf j z q2 tz))
    · have t1 := (hL x q1).2.1
      have t2 := (hL z q2).2.1
      rcases t with t | t
      · rw [t1] at t; exact absurd t (by decide)
      · rw [t2] at t; exact absurd t (by decide)
theorem OKa.ofArv {a : Addr} {k : ClassId} {ty : FieldType} {z : Int32} {vs : List Value} {d : Value} (A : Arv Z h a k ty z vs d) (hl : z.toNatClampNeg = vs.length) : OKa Z h a "" ty vs := by
  obtain ⟨c, A, -, hs, hz, H, G⟩ := A
  have e : c.slots.size = vs.length := hs.trans hl
  refine ⟨c, A, ?_, ?_, Or.inl rfl, fun v hv => ?_⟩
  · apply Array.ext_getElem?
    intro i
    by_cases q : i < c.slots.size
    · rw [H i q]; simp [List.getD_eq_getElem?_getD, List.getElem?_eq_getElem (e ▸ q)]
    · rw [Array.getElem?_eq_none (by omega), Array.getElem?_eq_none (by simp; omega)]
  · rw [← hl]; exact (back32 hz).2
  · obtain ⟨i, hi⟩ := List.mem_iff_getElem?.mp hv
    have hlt := (List.getElem?_eq_some_iff.mp hi).1
    have := G i (by omega)
    rw [List.getD_eq_getElem?_getD, hi] at this
    exact this
/-- a String constant of EL, read -/
theorem Goes.ldcR (X : Cx p (s0.setVm vm0) m meth c Z y code maxL ret) {index : Nat} {text : String} (n : Nat) (vs : List Value) (z : Int32) (w : (Jvm.Cond.stringLink y.cls index text).before a0 Z = true) (wS : ∀ a ∈ Bundle.stringAtoms, a.before a0 Z = true) (hmem : (y.cls, index) ∈ EL)
    (hLv : Laid Z a0 "java/lang/String" "java/lang/String" "value" "[B") (hLc : Laid Z a0 "java/lang/String" "java/lang/String" "coder" "B") (ht : (∀ c ∈ text.toList, c.toNat < 256) ∧ text.toList.map (fun c => Value.int (Jvm.Lit.byteI c.toNat.toUInt16)) = vs) (hz : ¬ z < 0) (hl : z.toNatClampNeg = vs.length) (hn : 4 * text.toList.length ≤ n)
    (k : ∀ a b vm1 k1, Cx p (s0.setVm vm1) m meth c Z y code maxL ret → Goes p l e R (s0.setVm vm1) m args below meth c Z a0 (some (EL, vmS, vm1, k1)) s0 h0 hS F0 rc rs Q (H ++ [(a, 2, Sum.inl ("java/lang/String", [("java/lang/String", "value", "[B", .ref b), ("java/lang/String", "coder", "B", .int 0)])), (b, 2, Sum.inr ("", .byte, vs))]) (cells + 2) (slots + (n + 4)) (mkF m (pc + 2) Ls (.ref a :: st)))
    (hd : oAt code pc (.ldc index, 2) = true := by decide +kernel) (hbig : n ≤ 536870912 := by decide) (hc : cells + 2 ≤ R.cells := by decide) (hsl : slots + (n + 4) ≤ R.slots := by decide) :
    Goes p l e R (s0.setVm vm0) m args below meth c Z a0 (some (EL, vmS, vm0, k0)) s0 h0 hS F0 rc rs Q H cells slots (mkF m pc Ls st) := fun T locs S Y N A => by
  obtain ⟨a, T', h', k1, b, kk, Y', e', E', hSi, hk1, hZ1, hf1, r1, r2, r3, r4, r5, r6, C, -, hne, st'⟩ := ldcCH Y X.1 X.2.2.2.2.2.2.2 X.2.2.2.1 w wS rfl S.2 A.2.2.1.2.2.2 A.2.2.1.1 hmem A.2.2.1.2.2.1.1 ht hz hl (g := mkF m pc Ls st) rfl (hb X.2.1 (oAt.dec hd)) hn hbig hc hsl
  have X' : Cx p (s0.setVm T'.vm) m meth c Z y code maxL ret := ⟨X.1, X.2.1, X.2.2.1, hf1, X.2.2.2.2.1, X.2.2.2.2.2.1, X.2.2.2.2.2.2.1, hZ1⟩
  refine (k a b T'.vm k1 X' T' locs ⟨rfl, hSi⟩ Y' N ?_).via st'
  rw [e']
  refine A.lit hZ1 E' C hk1 fun x hx => ?_
  rcases List.mem_cons.mp hx with rfl | hx
  · exact ⟨⟨r1, List.forall_mem_cons.mpr ⟨⟨hLv, ⟨.array .byte, show parseFieldDescriptor "[B" = _ from by decide +kernel⟩, r3⟩, List.forall_mem_cons.mpr ⟨⟨hLc, ⟨.byte, by decide +kernel⟩, r2⟩, fun _ q => nomatch q⟩⟩⟩, rfl, fun q s => (hne q s).1⟩
  · cases List.mem_singleton.mp hx
    exact ⟨OKa.ofArv r4 hl, rfl, fun q s => (hne q s).2⟩
/-- a String constant, not read -/
theorem Goes.ldcO (X : Cx p (s0.setVm vm0) m meth c Z y code maxL ret) {index : Nat} {text : String} (n : Nat) (w : (Jvm.Cond.stringLink y.cls index text).before a0 Z = true) (wS : ∀ a ∈ Bundle.stringAtoms, a.before a0 Z = true) (hn : 4 * text.toList.length ≤ n)
    (k : ∀ a vm1 k1, Cx p (s0.setVm vm1) m meth c Z y code maxL ret → Goes p l e R (s0.setVm vm1) m args below meth c Z a0 (some (EL, vmS, vm1, k1)) s0 h0 hS F0 rc rs Q H (cells + 2) (slots + (n + 4)) (mkF m (pc + 2) Ls (.ref a :: st)))
    (hd : oAt code pc (.ldc index, 2) = true := by decide +kernel) (hbig : n ≤ 536870912 := by decide) (hc : cells + 2 ≤ R.cells := by decide) (hsl : slots + (n + 4) ≤ R.slots := by decide) :
    Goes p l e R (s0.setVm vm0) m args below meth c Z a0 (some (EL, vmS, vm0, k0)) s0 h0 hS F0 rc rs Q H cells slots (mkF m pc Ls st) := fun T locs S Y N A => by
  obtain ⟨a, T', h', k1, Y', e', E', hSi, hk1, hZ1, hf1, C, -, st'⟩ := ldcOH Y X.1 X.2.2.2.2.2.2.2 X.2.2.2.1 w wS rfl S.2 A.2.2.1.2.2.2 A.2.2.1.1 A.2.2.1.2.2.1.1 (g := mkF m pc Ls st) rfl (hb X.2.1 (oAt.dec hd)) hn hbig hc hsl
  have X' : Cx p (s0.setVm T'.vm) m meth c Z y code maxL ret := ⟨X.1, X.2.1, X.2.2.1, hf1, X.2.2.2.2.1, X.2.2.2.2.2.1, X.2.2.2.2.2.2.1, hZ1⟩
  refine (k a T'.vm k1 X' T' locs ⟨rfl, hSi⟩ Y' N ?_).via st'
  rw [e']
  have q := A.lit (L := []) hZ1 E' C hk1 (fun x hx => nomatch hx)
  rwa [List.append_nil] at q
end Lits
theorem Hp.startW (s : State) (a0 : Array Value) (EL : List (String × Nat)) (E : EW s a0 EL) (hh : ∀ p ∈ EL, Jvm.Lit.constHeld s p.1 p.2) (hcw : Jvm.Lit.compactW.before a0 s = true) (wa : (Jvm.Cond.arrayClass .byte).before a0 s = true) (wi : (Jvm.Cond.instantiable "java/lang/String" 4).before a0 s = true) : Hp s a0 (some (EL, s.vm, s.vm, s.heap.size)) s.heap s.heap [] s.heap [] :=
  ⟨⟨Nat.le_refl _, fun _ _ q => q⟩, Keep.refl _ _, ⟨E, State.Warmed39.refl s, CHr.refl (CHv.start E hh hcw wa wi), Nat.le_refl _⟩, fun i x q => by simp at q, fun i j x y q => by simp at q⟩
/-! ## own kit, part 6: tests of a class, switches -/
section Tests
variable {p : Program} {l : Launch} {e : Env} {R : Room} {s : State} {m : MethodId} {args : Array Value} {below : List Frame} {meth : Method} {c : Code} {Z : State} {a0 : Array Value} {h0 hS : Heap} {M : OMode} {s0 : State} {F0 : OHp} {rc rs : Nat} {Q : Option Value → OHp → Prop} {H : OHp} {cells slots : Nat} {y : MethodName} {code : ByteArray} {maxL : Nat} {ret : Option FieldType} {pc : Nat} {Ls : Array Slot} {st : List Value}
theorem Goes.inst (X : Cx p s m meth c Z y code maxL ret) {K : String} {index : Nat} (i : Nat) {a : Addr} {C : String} {fs : List OFld} (w : (Jvm.Cond.classLink y.cls index K).before a0 Z = true) (wc : (Jvm.Cond.castable C K).before a0 Z = true) {tg : Nat} (hi : H[i]? = some (a, tg, Sum.inl (C, fs))) (k : Goes p l e R s m args below meth c Z a0 M s0 h0 hS F0 rc rs Q H cells slots (mkF m (pc + 3) Ls (.int 1 :: st))) (hd : oAt code pc (.instanceof index, 3) = true := by decide +kernel) : Goes p l e R s m args below meth c Z a0 M s0 h0 hS F0 rc rs Q H cells slots (mkF m pc Ls (.ref a :: st)) := fun T locs S Y N A => by
  obtain ⟨T', Y', e', st'⟩ := instY Y X.1 X.2.2.2.2.2.2.2 X.2.2.2.1 w rfl (Ins.of_exa (A.at hi).1 wc) (g := mkF m pc Ls (.ref a :: st)) rfl rfl (hb X.2.1 (oAt.dec hd))
  exact (k T' locs S Y' N (by rw [e']; exact A)).via st'
theorem Goes.lswH (X : Cx p s m meth c Z y code maxL ret) {dflt : Int} {prs : Array (Int × Int)} {len pc' : Nat} {v o : Int} {i : Int32} (hsorted : (prs.toList.zip (prs.toList.drop 1)).all (fun (a, next) => a.1 < next.1) = true) (hfind : prs.find? (·.1 == i.toInt) = some (v, o)) (k : Goes p l e R s m args below meth c Z a0 M s0 h0 hS F0 rc rs Q H cells slots (mkF m pc' Ls st)) (hd : oAt code pc (.lookupswitch dflt prs, len) = true := by decide +kernel) (ho : 0 ≤ (pc : Int) + o := by decide) (hp : ((pc : Int) + o).toNat = pc' := by decide) : Goes p l e R s m args below meth c Z a0 M s0 h0 hS F0 rc rs Q H cells slots (mkF m pc Ls (.int i :: st)) := fun T locs S Y N A => by
  subst hp
  exact (k T locs S Y N A).via fun t r => Y.lookupswitchHit X.1 (g := mkF m pc Ls (.int i :: st)) rfl rfl (hb X.2.1 (oAt.dec hd)) hsorted hfind ho t r
theorem Goes.lswM (X : Cx p s m meth c Z y code maxL ret) {dflt : Int} {prs : Array (Int × Int)} {len pc' : Nat} {i : Int32} (hsorted : (prs.toList.zip (prs.toList.drop 1)).all (fun (a, next) => a.1 < next.1) = true) (hfind : prs.find? (·.1 == i.toInt) = none) (k : Goes p l e R s m args below meth c Z a0 M s0 h0 hS F0 rc rs Q H cells slots (mkF m pc' Ls st)) (hd : oAt code pc (.lookupswitch dflt prs, len) = true := by decide +kernel) (ho : 0 ≤ (pc : Int) + dflt := by decide) (hp : ((pc : Int) + dflt).toNat = pc' := by decide) : Goes p l e R s m args below meth c Z a0 M s0 h0 hS F0 rc rs Q H cells slots (mkF m pc Ls (.int i :: st)) := fun T locs S Y N A => by
  subst hp
  exact (k T locs S Y N A).via fun t r => Y.lookupswitchMiss X.1 (g := mkF m pc Ls (.int i :: st)) rfl rfl (hb X.2.1 (oAt.dec hd)) hsorted hfind ho t r
end Tests
/-! ## own kit, wide form, part 8: arrays of references written; System.arraycopy -/
section CopyK
variable {Z : State} {a0 : Array Value} {M : OMode} {h0 hS h h' : Heap} {F0 : OHp} {H : OHp} {a : Addr} {D : String} {ty : FieldType} {vs : List Value}
/-- one object is written, at any places -/
theorem Hp.kp {i : Nat} {b b' : (String × List OFld) ⊕ (String × FieldType × List Value)} (A : Hp Z a0 M h0 hS F0 h H) (hi : H[i]? = some (a, 0, b)) (K2 : Keep h h' [a]) (hO : OK Z a0 h' a (0, b')) : Hp Z a0 M h0 hS F0 h' (H.set i (a, 0, b')) := by
  obtain ⟨E, K, Mi, F, I⟩ := A
  have hge := (F i _ hi).2.1 rfl
  have hlt : i < H.length := (List.getElem?_eq_some_iff.mp hi).1
  have hsf : ∀ x ∈ [a], SafeM Z M h x := fun x hx => by cases List.mem_singleton.mp hx; exact hge.2.2
  have key : ∀ (k : Nat) (x : Addr × OObj), (H.set i (a, 0, b'))[k]? = some x → ∃ x0 : Addr × OObj, H[k]? = some x0 ∧ x0.1 = x.1 ∧ x0.2.1 = x.2.1 := fun k x hk => by
    rw [List.getElem?_set] at hk
    by_cases q : i = k
    · subst q; simp only [if_true, hlt] at hk; cases hk; exact ⟨_, hi, rfl, rfl⟩
    · rw [if_neg q] at hk; exact ⟨x, hk, rfl, rfl⟩
  refine ⟨?_, K.trans K2 fun x hx => by cases List.mem_singleton.mp hx; exact hge.2.1, Mi.keep K2 hsf, fun k x hk => ?_, fun k1 k2 x y h1 h2 e t => ?_⟩
  · refine ⟨Nat.le_trans E.1 K2.1, fun x c hx => K2.2.1 x c (E.2 x c hx) fun q => ?_⟩
    have := (Array.getElem?_eq_some_iff.mp hx).1
    cases List.mem_singleton.mp q
    have := hge.1
    omega
  · rw [List.getElem?_set] at hk
    by_cases q : i = k
    · subst q; simp only [if_true, hlt] at hk; cases hk
      exact ⟨hO, fun _ => ⟨hge.1, hge.2.1, SafeM.keep Mi K2 hsf hge.2.2⟩, fun z => absurd z (by show ¬ (0 : Nat) = 1; decide)⟩
    · rw [if_neg q] at hk
      obtain ⟨r1, r2, r3⟩ := F k x hk
      refine ⟨r1.keep K2 fun z => ?_, fun z => ⟨(r2 z).1, (r2 z).2.1, SafeM.keep Mi K2 hsf (r2 z).2.2⟩, r3⟩
      exact q (I i k _ _ hi hk (List.mem_singleton.mp z).symm (Or.inl rfl))
  · obtain ⟨x0, e1, e2, e2'⟩ := key k1 x h1
    obtain ⟨y0, e3, e4, e4'⟩ := key k2 y h2
    exact I k1 k2 _ _ e1 e3 (by rw [e2, e4, e]) (by rw [e2', e4']; exact t)
theorem own_n32 {n : Nat} (h : n < 2 ^ 31) : ¬ Int32.ofNat n < 0 ∧ (Int32.ofNat n).toNatClampNeg = n := by
  have e : (Int32.ofNat n).toInt = n := Int32.toInt_ofNat_of_lt h
  refine ⟨fun q => ?_, ?_⟩
  · have := Int32.lt_iff_toInt_lt.mp q
    have e0 : (0 : Int32).toInt = 0 := rfl
    omega
  · show (Int32.ofNat n).toInt.toNat = n
    omega
theorem OKa.arv (A : OKa Z h a D ty vs) (d : Value) : ∃ k, (D = "" ∨ Z.vm.findClass D = some k) ∧ Arv Z h a k ty (Int32.ofNat vs.length) vs d := by
  obtain ⟨c, A, hs, hl, hf, hfit⟩ := A
  have q := own_n32 hl
  have sz : c.slots.size = vs.length := by rw [hs, List.size_toArray]
  refine ⟨c.cls, hf, c, A, rfl, by rw [sz, q.2], q.1, fun i hi => ?_, fun i hi => ?_⟩
  · rw [hs]; simp [List.getD_eq_getElem?_getD, List.getElem?_eq_getElem (sz ▸ hi)]
  · rw [List.getD_eq_getElem?_getD, List.getElem?_eq_getElem (sz ▸ hi)]; exact hfit _ (List.getElem_mem _)
theorem OKa.back {k : ClassId} {d : Value} {n : Int32} (A : Arv Z h a k ty n vs d) (hl : n.toNatClampNeg = vs.length) (hD : D = "" ∨ Z.vm.findClass D = some k) : OKa Z h a D ty vs := by
  obtain ⟨c, A, hk, hs, hz, H, G⟩ := A
  have e : c.slots.size = vs.length := hs.trans hl
  refine ⟨c, A, ?_, ?_, hk ▸ hD, fun v hv => ?_⟩
  · apply Array.ext_getElem?
    intro i
    by_cases q : i < c.slots.size
    · rw [H i q]; simp [List.getD_eq_getElem?_getD, List.getElem?_eq_getElem (e ▸ q)]
    · rw [Array.getElem?_eq_none (by omega), Array.getElem?_eq_none (by simp; omega)]
  · rw [← hl]; exact (back32 hz).2
  · obtain ⟨i, hi⟩ := List.mem_iff_getElem?.mp hv
    have hlt := (List.getElem?_eq_some_iff.mp hi).1
    have := G i (by omega)
    rw [List.getD_eq_getElem?_getD, hi] at this
    exact this
end CopyK
section CopyG
variable {p : Program} {l : Launch} {e : Env} {R : Room} {s : State} {m : MethodId} {args : Array Value} {below : List Frame} {meth : Method} {c : Code} {Z : State} {a0 : Array Value} {M : OMode} {s0 : State} {h0 hS : Heap} {F0 : OHp} {rc rs : Nat} {Q : Option Value → OHp → Prop} {H : OHp} {cells slots : Nat} {y : MethodName} {code : ByteArray} {maxL : Nat} {ret : Option FieldType} {pc : Nat} {Ls : Array Slot} {st : List Value}
/-- System.arraycopy between two arrays of bytes -/
theorem Goes.acopy (X : Cx p s m meth c Z y code maxL ret) {index : Nat} (W : Nat) (i j : Nat) {tg : Nat} {a b : Addr} {D D' : String} {vs vd : List Value} {sp dp nn : Int32} (us : List Value) (sn dn n : Nat) (w1 : (Jvm.Cond.methodLink y.cls index Jvm.Stand.acN).before a0 Z = true) (w2 : (Jvm.Cond.native Jvm.Stand.acN).before a0 Z = true) (w3 : (Jvm.Cond.static Jvm.Stand.acN).before a0 Z = true) (w4 : (Jvm.Cond.initialized "java/lang/System").before a0 Z = true)
    (hi : H[i]? = some (a, tg, Sum.inr (D, .byte, vs))) (hj : H[j]? = some (b, ar D' .byte vd)) (h1 : ¬ sp < 0) (h2 : ¬ dp < 0) (h3 : ¬ nn < 0) (e1 : sp.toNatClampNeg = sn) (e2 : dp.toNatClampNeg = dn) (e3 : nn.toNatClampNeg = n) (h4 : sn + n ≤ vs.length) (h5 : dn + n ≤ vd.length) (hus : us = (List.range n).map fun k => vs.getD (sn + k) (.int 0)) (hsize : Ls.size = maxL)
    (k : Goes p l e R s m args below meth c Z a0 M s0 h0 hS F0 rc rs Q (H.set j (b, ar D' .byte (vd.take dn ++ us ++ vd.drop (dn + n)))) cells slots (mkF m (pc + 3) Ls st)) (hd : oAt code pc (.invokestatic index, 3) = true := by decide +kernel) (hf : 1 ≤ R.frames := by decide) (hW : (st.map fun v => v.category).sum = W := by rfl) (hlo : W + (nativeFrameWords "java/lang/System" "arraycopy" 5 + 11) ≤ R.locals := by decide) :
    Goes p l e R s m args below meth c Z a0 M s0 h0 hS F0 rc rs Q H cells slots (mkF m pc Ls (.int nn :: .int dp :: .ref b :: .int sp :: .ref a :: st)) := fun T locs S Y N A => by
  subst hW e1 e2 e3
  obtain ⟨k1, -, A1⟩ := OKa.arv (A.at hi : OKa Z T.heap a D .byte vs) (.int 0)
  have lv := (A.at hi : OKa Z T.heap a D .byte vs).choose_spec.2.2.1
  have OB : OKa Z T.heap b D' .byte vd := A.at hj
  obtain ⟨k2, hD2, B1⟩ := OKa.arv OB (.int 0)
  have ld := OB.choose_spec.2.2.1
  have q1 := (own_n32 lv).2
  have q2 := (own_n32 ld).2
  obtain ⟨T', h', L, Y', e', N', K', B', st'⟩ := cpA Y X.1 X.2.2.2.2.2.2.2 X.2.2.2.1 w1 w2 w3 w4 rfl A1 B1 (Or.inl ⟨rfl, rfl⟩) h1 h2 h3 (by omega) (by omega) hus (by omega) N ((A.2.2.2.1 j _ hj).2.1 rfl).1 (g := mkF m pc Ls (.int nn :: .int dp :: .ref b :: .int sp :: .ref a :: st)) rfl (hsize.trans X.2.2.1.symm) rfl (hb X.2.1 (oAt.dec hd)) hf (W := (st.map fun v => v.category).sum) (by show 2 * 0 + _ ≤ _; omega) hlo
  refine (k T' L S Y' N' ?_).via st'
  rw [e']
  refine A.kp hj K' (OKa.back B' ?_ hD2)
  rw [q2, hus]; simp; omega
theorem Goes.anewarrO (X : Cx p s m meth c Z y code maxL ret) {C : String} {index : Nat} {n : Int32} (D : String) (nn cap : Nat) (w : (Jvm.Cond.classLink y.cls index C).before a0 Z = true) (w2 : (Jvm.Cond.arrayOver (.object C)).before a0 Z = true) (hD : "[" ++ (FieldType.object C).toString = D) (hDn : D ≠ "") (hn : ¬ n < 0) (hnn : n.toNatClampNeg = nn) (k : ∀ a, (∀ cA, Z.vm.findClass D = some cA → Ovr Z cA C) → Goes p l e R s m args below meth c Z a0 M s0 h0 hS F0 rc rs Q (H ++ [(a, ar D (.object C) (List.replicate nn .null))]) (cells + 1) (slots + cap) (mkF m (pc + 3) Ls (.ref a :: st))) (hd : oAt code pc (.anewarray index, 3) = true := by decide +kernel) (hcap : nn ≤ cap := by decide) (hb8 : cap * 8 ≤ 536870912 := by decide) (hc : cells + 1 ≤ R.cells := by decide) (hl : slots + cap ≤ R.slots := by decide) : Goes p l e R s m args below meth c Z a0 M s0 h0 hS F0 rc rs Q H cells slots (mkF m pc Ls (.int n :: st)) := fun T locs S Y N A => by
  have hZ := X.2.2.2.2.2.2.2
  subst hnn
  obtain ⟨T', h', cA, Y', e', E', A', X', O', st'⟩ := newRE Y X.1 hZ X.2.2.2.1 w w2 rfl (g := mkF m pc Ls (.int n :: st)) rfl (hb X.2.1 (oAt.dec hd)) rfl hn hcap hb8 hc hl hD
  have hfc : Z.vm.findClass D = some cA := by
    obtain ⟨cell, kk, r1, r2, -⟩ := X'
    cases r1.symm.trans A'.1
    exact r2
  refine (k T.heap.size (fun c2 h2 => by cases hfc.symm.trans h2; exact O') T' locs S Y' N ?_).via st'
  rw [e']
  refine A.new E' ⟨newA cA (.object C) n, A', ?_, ?_, Or.inr hfc, ?_⟩
  · simp [newA, defaultValue]
  · rw [List.length_replicate]; exact (back32 hn).2
  · intro v hv
    rw [List.eq_of_mem_replicate hv]; rfl
theorem Goes.aastore (X : Cx p s m meth c Z y code maxL ret) (i o jn : Nat) {tg : Nat} {a v : Addr} {D C C' : String} {fs : List OFld} {vs : List Value} {j : Int32} (hO : ∀ cA, Z.vm.findClass D = some cA → Ovr Z cA C) (wc : (Jvm.Cond.castable C' C).before a0 Z = true) (hi : H[i]? = some (a, ar D (.object C) vs)) (ho : H[o]? = some (v, tg, Sum.inl (C', fs))) (hDn : D ≠ "") (hj : j.toNatClampNeg = jn) (hj0 : ¬ j < 0) (hlt : jn < vs.length) (k : Goes p l e R s m args below meth c Z a0 M s0 h0 hS F0 rc rs Q (H.set i (a, ar D (.object C) (vs.set jn (.ref v)))) cells slots (mkF m (pc + 1) Ls st)) (hd : oAt code pc (.aastore, 1) = true := by decide +kernel) : Goes p l e R s m args below meth c Z a0 M s0 h0 hS F0 rc rs Q H cells slots (mkF m pc Ls (.ref v :: .int j :: .ref a :: st)) := fun T locs S Y N A => by
  have O : OKa Z T.heap a D (.object C) vs := A.at hi
  obtain ⟨cl, O1, hs, hl0, hf0, -⟩ := id O
  subst hj
  have V : OKo Z a0 T.heap v C' fs := A.at ho
  obtain ⟨T', h', Y', e', W, st'⟩ := stR Y X.1 X.2.2.2.2.2.2.2 rfl O1 (own_inb hs rfl hj0 hlt) rfl (Sto.of O1 (hO _ (hf0.resolve_left hDn)) (Ins.of_exa V.1 wc)) (g := mkF m pc Ls (.ref v :: .int j :: .ref a :: st)) rfl rfl (hb X.2.1 (oAt.dec hd))
  refine (k T' _ S Y' (Fr.snoc Y' N ((A.2.2.2.1 i _ hi).2.1 rfl).1) ?_).via st'
  rw [e']
  exact A.wr hi W (OKa.store O W rfl)
end CopyG
section Nf
theorem own_nf2 {p : Program} {s : State} {m : MethodId} {meth : Method} {c : Code} {Z : State} {a0 : Array Value} {y : MethodName} {code : ByteArray} {maxL : Nat} {ret : Option FieldType} (X : Cx p s m meth c Z y code maxL ret) {C : String} {y1 y' : MethodName} (w : (Jvm.Cond.selects C y1 y1).before a0 Z = true) (hc : y1.cls = y'.cls) : NotFace s y' := fun r0 hn => by
  obtain ⟨c1, r1, m1, -, -, q3, -, kP, hkP, hkPi⟩ := Cond.selects_spec (mvT (args := #[]) X.2.2.2.2.2.2.2 w)
  have e1 := findClass_of_methodNamed q3
  have e2 := findClass_of_methodNamed hn
  rw [hc] at e1
  have e3 : m1.cls = r0.cls := Option.some.inj (e1.symm.trans e2)
  exact ⟨kP, e3 ▸ hkP, hkPi⟩
end Nf
abbrev o_String (v0 v1 : Value) : OObj := ob "java/lang/String" [("java/lang/String", "value", "[B", v0), ("java/lang/String", "coder", "B", v1)]
theorem nd_String : (["value", "coder"] : List String).Nodup := by decide +kernel
theorem new_String {Z : State} {a0 : Array Value} (hw : ∀ d ∈ tables_1, d.before a0 Z = true) : ∀ f ∈ ([("java/lang/String", "value", "[B", .null), ("java/lang/String", "coder", "B", .int 0)] : List OFld), Laid Z a0 "java/lang/String" f.1 f.2.1 f.2.2.1 ∧ ∃ t, parseFieldDescriptor f.2.2.1 = some t ∧ f.2.2.2 = defaultValue t := List.forall_mem_cons.mpr ⟨⟨Or.inr (wd hw 24 rfl), (.array .byte), by decide +kernel, rfl⟩, List.forall_mem_cons.mpr ⟨⟨Or.inr (wd hw 26 rfl), .byte, by decide +kernel, rfl⟩, fun _ q => nomatch q⟩⟩
abbrev o_SB (v0 v1 v2 : Value) : OObj := ob "java/lang/StringBuilder" [("java/lang/AbstractStringBuilder", "value", "[B", v0), ("java/lang/AbstractStringBuilder", "coder", "B", v1), ("java/lang/AbstractStringBuilder", "count", "I", v2)]
theorem nd_SB : (["value", "coder", "count"] : List String).Nodup := by decide +kernel
theorem new_SB {Z : State} {a0 : Array Value} (hw : ∀ d ∈ tables_1, d.before a0 Z = true) : ∀ f ∈ ([("java/lang/AbstractStringBuilder", "value", "[B", .null), ("java/lang/AbstractStringBuilder", "coder", "B", .int 0), ("java/lang/AbstractStringBuilder", "count", "I", .int 0)] : List OFld), Laid Z a0 "java/lang/StringBuilder" f.1 f.2.1 f.2.2.1 ∧ ∃ t, parseFieldDescriptor f.2.2.1 = some t ∧ f.2.2.2 = defaultValue t := List.forall_mem_cons.mpr ⟨⟨Or.inl (wd hw 65 rfl), (.array .byte), by decide +kernel, rfl⟩, List.forall_mem_cons.mpr ⟨⟨Or.inl (wd hw 63 rfl), .byte, by decide +kernel, rfl⟩, List.forall_mem_cons.mpr ⟨⟨Or.inl (wd hw 81 rfl), .int, by decide +kernel, rfl⟩, fun _ q => nomatch q⟩⟩⟩
abbrev y_0 : MethodName := ⟨"java/lang/String", "valueOf", "(C)Ljava/lang/String;"⟩
theorem pd_y_0 : parseMethodDescriptor y_0.desc = some ⟨[.char], some (.object "java/lang/String")⟩ := by decide +kernel
abbrev y_1 : MethodName := ⟨"java/lang/StringLatin1", "canEncode", "(C)Z"⟩
theorem pd_y_1 : parseMethodDescriptor y_1.desc = some ⟨[.char], some .boolean⟩ := by decide +kernel
abbrev y_2 : MethodName := ⟨"java/lang/StringLatin1", "toBytes", "(C)[B"⟩
theorem pd_y_2 : parseMethodDescriptor y_2.desc = some ⟨[.char], some (.array .byte)⟩ := by decide +kernel
abbrev y_3 : MethodName := ⟨"java/lang/String", "<init>", "([BB)V"⟩
theorem pd_y_3 : parseMethodDescriptor y_3.desc = some ⟨[(.array .byte), .byte], none⟩ := by decide +kernel
abbrev y_4 : MethodName := ⟨"com/example/kusuribako/kusuribako/exchange/Answers", "jsonObject", "([Ljava/lang/String;)Ljava/lang/String;"⟩
theorem pd_y_4 : parseMethodDescriptor y_4.desc = some ⟨[(.array (.object "java/lang/String"))], some (.object "java/lang/String")⟩ := by decide +kernel
abbrev y_5 : MethodName := ⟨"java/lang/StringBuilder", "<init>", "(Ljava/lang/String;)V"⟩
theorem pd_y_5 : parseMethodDescriptor y_5.desc = some ⟨[(.object "java/lang/String")], none⟩ := by decide +kernel
abbrev y_6 : MethodName := ⟨"java/lang/AbstractStringBuilder", "<init>", "(Ljava/lang/String;)V"⟩
theorem pd_y_6 : parseMethodDescriptor y_6.desc = some ⟨[(.object "java/lang/String")], none⟩ := by decide +kernel
abbrev y_7 : MethodName := ⟨"java/lang/String", "length", "()I"⟩
theorem pd_y_7 : parseMethodDescriptor y_7.desc = some ⟨[], some .int⟩ := by decide +kernel
abbrev y_8 : MethodName := ⟨"java/lang/String", "coder", "()B"⟩
theorem pd_y_8 : parseMethodDescriptor y_8.desc = some ⟨[], some .byte⟩ := by decide +kernel
abbrev y_9 : MethodName := ⟨"java/lang/StringBuilder", "append", "(Ljava/lang/String;)Ljava/lang/AbstractStringBuilder;"⟩
theorem pd_y_9 : parseMethodDescriptor y_9.desc = some ⟨[(.object "java/lang/String")], some (.object "java/lang/AbstractStringBuilder")⟩ := by decide +kernel
abbrev y_10 : MethodName := ⟨"java/lang/StringBuilder", "append", "(Ljava/lang/String;)Ljava/lang/StringBuilder;"⟩
theorem pd_y_10 : parseMethodDescriptor y_10.desc = some ⟨[(.object "java/lang/String")], some (.object "java/lang/StringBuilder")⟩ := by decide +kernel
abbrev y_11 : MethodName := ⟨"java/lang/AbstractStringBuilder", "append", "(Ljava/lang/String;)Ljava/lang/AbstractStringBuilder;"⟩
theorem pd_y_11 : parseMethodDescriptor y_11.desc = some ⟨[(.object "java/lang/String")], some (.object "java/lang/AbstractStringBuilder")⟩ := by decide +kernel
abbrev y_12 : MethodName := ⟨"java/lang/AbstractStringBuilder", "ensureCapacityInternal", "(I)V"⟩
theorem pd_y_12 : parseMethodDescriptor y_12.desc = some ⟨[.int], none⟩ := by decide +kernel
abbrev y_13 : MethodName := ⟨"java/lang/AbstractStringBuilder", "putStringAt", "(ILjava/lang/String;)V"⟩
theorem pd_y_13 : parseMethodDescriptor y_13.desc = some ⟨[.int, (.object "java/lang/String")], none⟩ := by decide +kernel
abbrev y_14 : MethodName := ⟨"java/lang/AbstractStringBuilder", "inflateIfNeededFor", "(Ljava/lang/String;)V"⟩
theorem pd_y_14 : parseMethodDescriptor y_14.desc = some ⟨[(.object "java/lang/String")], none⟩ := by decide +kernel
abbrev y_15 : MethodName := ⟨"java/lang/String", "getBytes", "([BIB)V"⟩
theorem pd_y_15 : parseMethodDescriptor y_15.desc = some ⟨[(.array .byte), .int, .byte], none⟩ := by decide +kernel
abbrev y_16 : MethodName := ⟨"java/lang/StringBuilder", "append", "(C)Ljava/lang/StringBuilder;"⟩
theorem pd_y_16 : parseMethodDescriptor y_16.desc = some ⟨[.char], some (.object "java/lang/StringBuilder")⟩ := by decide +kernel
abbrev y_17 : MethodName := ⟨"java/lang/AbstractStringBuilder", "append", "(C)Ljava/lang/AbstractStringBuilder;"⟩
theorem pd_y_17 : parseMethodDescriptor y_17.desc = some ⟨[.char], some (.object "java/lang/AbstractStringBuilder")⟩ := by decide +kernel
abbrev y_18 : MethodName := ⟨"java/lang/AbstractStringBuilder", "isLatin1", "()Z"⟩
theorem pd_y_18 : parseMethodDescriptor y_18.desc = some ⟨[], some .boolean⟩ := by decide +kernel
abbrev y_19 : MethodName := ⟨"java/lang/StringBuilder", "toString", "()Ljava/lang/String;"⟩
theorem pd_y_19 : parseMethodDescriptor y_19.desc = some ⟨[], some (.object "java/lang/String")⟩ := by decide +kernel
abbrev y_20 : MethodName := ⟨"java/lang/String", "<init>", "(Ljava/lang/StringBuilder;)V"⟩
theorem pd_y_20 : parseMethodDescriptor y_20.desc = some ⟨[(.object "java/lang/StringBuilder")], none⟩ := by decide +kernel
abbrev y_21 : MethodName := ⟨"java/lang/String", "<init>", "(Ljava/lang/AbstractStringBuilder;Ljava/lang/Void;)V"⟩
theorem pd_y_21 : parseMethodDescriptor y_21.desc = some ⟨[(.object "java/lang/AbstractStringBuilder"), (.object "java/lang/Void")], none⟩ := by decide +kernel
abbrev y_22 : MethodName := ⟨"java/lang/AbstractStringBuilder", "getValue", "()[B"⟩
theorem pd_y_22 : parseMethodDescriptor y_22.desc = some ⟨[], some (.array .byte)⟩ := by decide +kernel
abbrev y_23 : MethodName := ⟨"java/lang/StringBuilder", "length", "()I"⟩
theorem pd_y_23 : parseMethodDescriptor y_23.desc = some ⟨[], some .int⟩ := by decide +kernel
abbrev y_24 : MethodName := ⟨"java/lang/AbstractStringBuilder", "length", "()I"⟩
theorem pd_y_24 : parseMethodDescriptor y_24.desc = some ⟨[], some .int⟩ := by decide +kernel
abbrev y_25 : MethodName := ⟨"java/util/Arrays", "copyOfRange", "([BII)[B"⟩
theorem pd_y_25 : parseMethodDescriptor y_25.desc = some ⟨[(.array .byte), .int, .int], some (.array .byte)⟩ := by decide +kernel
abbrev y_26 : MethodName := ⟨"java/util/Arrays", "copyOfRangeByte", "([BII)[B"⟩
theorem pd_y_26 : parseMethodDescriptor y_26.desc = some ⟨[(.array .byte), .int, .int], some (.array .byte)⟩ := by decide +kernel
abbrev y_27 : MethodName := ⟨"java/util/Arrays", "checkLength", "(II)V"⟩
theorem pd_y_27 : parseMethodDescriptor y_27.desc = some ⟨[.int, .int], none⟩ := by decide +kernel
abbrev y_28 : MethodName := ⟨"java/lang/Math", "min", "(II)I"⟩
theorem pd_y_28 : parseMethodDescriptor y_28.desc = some ⟨[.int, .int], some .int⟩ := by decide +kernel
abbrev y_29 : MethodName := ⟨"com/example/kusuribako/kusuribako/exchange/AnswersJsonObjectPinLaw", "put", "([CIC)I"⟩
theorem pd_y_29 : parseMethodDescriptor y_29.desc = some ⟨[(.array .char), .int, .char], some .int⟩ := by decide +kernel
abbrev y_30 : MethodName := ⟨"com/example/kusuribako/kusuribako/exchange/AnswersJsonObjectPinLaw", "at", "(Ljava/lang/String;[CII)Z"⟩
theorem pd_y_30 : parseMethodDescriptor y_30.desc = some ⟨[(.object "java/lang/String"), (.array .char), .int, .int], some .boolean⟩ := by decide +kernel
abbrev y_31 : MethodName := ⟨"java/lang/String", "charAt", "(I)C"⟩
theorem pd_y_31 : parseMethodDescriptor y_31.desc = some ⟨[.int], some .char⟩ := by decide +kernel
abbrev y_32 : MethodName := ⟨"java/lang/String", "isLatin1", "()Z"⟩
theorem pd_y_32 : parseMethodDescriptor y_32.desc = some ⟨[], some .boolean⟩ := by decide +kernel
abbrev y_33 : MethodName := ⟨"java/lang/StringLatin1", "charAt", "([BI)C"⟩
theorem pd_y_33 : parseMethodDescriptor y_33.desc = some ⟨[(.array .byte), .int], some .char⟩ := by decide +kernel
abbrev y_34 : MethodName := ⟨"java/lang/String", "checkIndex", "(II)V"⟩
theorem pd_y_34 : parseMethodDescriptor y_34.desc = some ⟨[.int, .int], none⟩ := by decide +kernel
abbrev y_35 : MethodName := ⟨"jdk/internal/util/Preconditions", "checkIndex", "(IILjava/util/function/BiFunction;)I"⟩
theorem pd_y_35 : parseMethodDescriptor y_35.desc = some ⟨[.int, .int, (.object "java/util/function/BiFunction")], some .int⟩ := by decide +kernel
abbrev y_36 : MethodName := ⟨"com/example/kusuribako/kusuribako/exchange/AnswersJsonObjectPinLaw", "pair", "([CICZCZ)I"⟩
theorem pd_y_36 : parseMethodDescriptor y_36.desc = some ⟨[(.array .char), .int, .char, .boolean, .char, .boolean], some .int⟩ := by decide +kernel
abbrev oBs (bs : List Value) : OObj := ar "[B" .byte bs
theorem own_nb (z : Int32) : nar .byte (oI2b z) = oI2b z := by simp [nar, oI2b]
theorem own_i2c {z : Int32} (h0 : 0 ≤ z.toInt) (h1 : z.toInt ≤ 255) : oI2c z = z := by
  have e : z &&& 255 = z := by
    apply Int32.toBitVec_inj.mp
    apply BitVec.eq_of_toNat_eq
    change 0 ≤ z.toBitVec.toInt at h0
    change z.toBitVec.toInt ≤ 255 at h1
    rw [BitVec.toInt_eq_toNat_cond] at h0 h1
    rw [Int32.toBitVec_and, BitVec.toNat_and]
    show z.toBitVec.toNat &&& 255 = z.toBitVec.toNat
    have : z.toBitVec.toNat < 2 ^ 8 := by split at h0 <;> split at h1 <;> omega
    exact Nat.and_two_pow_sub_one_of_lt_two_pow this
  have q := i2c_mask z
  rw [e] at q
  exact q
theorem own_nch {z : Int32} (h0 : 0 ≤ z.toInt) (h1 : z.toInt ≤ 255) : narrow .char (.int z) = .int z := by
  show Value.int (oI2c z) = .int z
  rw [own_i2c h0 h1]
theorem own_nca {z : Int32} (h0 : 0 ≤ z.toInt) (h1 : z.toInt ≤ 255) : nar .char z = z := own_i2c h0 h1
theorem own_le {z : Int32} (h1 : z.toInt ≤ 255) : z ≤ 255 := Int32.le_iff_toInt_le.mpr h1
theorem own_wS {Z : State} {a0 : Array Value} (hw : ∀ d ∈ tables_1, d.before a0 Z = true) : ∀ a ∈ Bundle.stringAtoms, a.before a0 Z = true := List.forall_mem_cons.mpr ⟨wd hw 3 rfl, List.forall_mem_cons.mpr ⟨wd hw 11 rfl, List.forall_mem_cons.mpr ⟨wd hw 15 rfl, List.forall_mem_cons.mpr ⟨wd hw 24 rfl, List.forall_mem_cons.mpr ⟨wd hw 26 rfl, List.forall_mem_cons.mpr ⟨wd hw 28 rfl, List.forall_mem_cons.mpr ⟨wd hw 29 rfl, fun _ q => nomatch q⟩⟩⟩⟩⟩⟩⟩
theorem own_Lv {Z : State} {a0 : Array Value} (hw : ∀ d ∈ tables_1, d.before a0 Z = true) : Laid Z a0 "java/lang/String" "java/lang/String" "value" "[B" := Or.inr (wd hw 24 rfl)
theorem own_Lc {Z : State} {a0 : Array Value} (hw : ∀ d ∈ tables_1, d.before a0 Z = true) : Laid Z a0 "java/lang/String" "java/lang/String" "coder" "B" := Or.inr (wd hw 26 rfl)
abbrev own_EL : List (String × Nat) := [("com/example/kusuribako/kusuribako/exchange/Answers", 66), ("com/example/kusuribako/kusuribako/exchange/Answers", 71), ("com/example/kusuribako/kusuribako/exchange/Answers", 73), ("com/example/kusuribako/kusuribako/exchange/Answers", 79), ("com/example/kusuribako/kusuribako/exchange/AnswersJsonObjectPinLaw", 8)]
theorem own_EW {Z : State} {a0 : Array Value} (hw : ∀ d ∈ tables_1, d.before a0 Z = true) : EW Z a0 own_EL := EW.cons (wd hw 39 rfl) (by decide +kernel) (EW.cons (wd hw 193 rfl) (by decide +kernel) (EW.cons (wd hw 199 rfl) (by decide +kernel) (EW.cons (wd hw 195 rfl) (by decide +kernel) (EW.cons (wd hw 27 rfl) (by decide +kernel) (EW.nil)))))
theorem own_t66 : (∀ c ∈ ("{" : String).toList, c.toNat < 256) ∧ ("{" : String).toList.map (fun c => Value.int (Jvm.Lit.byteI c.toNat.toUInt16)) = [.int 123] := ⟨by decide +kernel, by decide +kernel⟩
theorem own_t71 : (∀ c ∈ ("\"" : String).toList, c.toNat < 256) ∧ ("\"" : String).toList.map (fun c => Value.int (Jvm.Lit.byteI c.toNat.toUInt16)) = [.int 34] := ⟨by decide +kernel, by decide +kernel⟩
theorem own_t73 : (∀ c ∈ (",\"" : String).toList, c.toNat < 256) ∧ (",\"" : String).toList.map (fun c => Value.int (Jvm.Lit.byteI c.toNat.toUInt16)) = [.int 44, .int 34] := ⟨by decide +kernel, by decide +kernel⟩
theorem own_t79 : (∀ c ∈ ("\":\"" : String).toList, c.toNat < 256) ∧ ("\":\"" : String).toList.map (fun c => Value.int (Jvm.Lit.byteI c.toNat.toUInt16)) = [.int 34, .int 58, .int 34] := ⟨by decide +kernel, by decide +kernel⟩
theorem own_t8 : (∀ c ∈ ("" : String).toList, c.toNat < 256) ∧ ("" : String).toList.map (fun c => Value.int (Jvm.Lit.byteI c.toNat.toUInt16)) = [] := ⟨by decide +kernel, by decide +kernel⟩
set_option maxRecDepth 65536 in
set_option maxHeartbeats 40000000 in
theorem D_sisl (l : Launch) (Z : State) (a0 : Array Value) (h0 : Heap) (hw : ∀ d ∈ tables_1, d.before a0 Z = true) (cs : Int32) (hCS : Sta Z h0 "java/lang/String" "COMPACT_STRINGS" "Z" (.int cs)) (hcs : ¬ cs = 0) (a : Addr) (tg : Nat) (v0 : Value) : Does l Z a0 h0 y_32 jdk_42_method_154_code 1 (some .boolean) ({ frames := 0, cells := 0, slots := 0, locals := 0 } : Room) #[.ref a] [(a, ro tg (o_String (v0) (.int 0)))] (fun v F => v = some (.int 1) ∧ F = [(a, ro tg (o_String (v0) (.int 0)))]) := by
  refine Does.mk #[.val (.ref a)] (plainFor_of_name (by decide +kernel)) (fun m => by first | (simp [entryFrame, mkF, argsToLocals, Value.category]; done) | rfl) ?_
  intro p e s m args below meth c h X
  show Goes _ _ _ _ _ _ _ _ _ _ _ _ _ _ _ _ _ _ _ _ [(a, ro tg (o_String (v0) (.int 0)))] 0 0 (mkF m 0 #[.val (.ref a)] [])
  refine Goes.getS X (wd hw 5 rfl) Via.refl hCS ?_
  refine Goes.if1 X (pc' := 17) (o := 14) (cd := .eq) (fun q => absurd (q.symm.trans (by simpa [ifCond.holds] using hcs : ifCond.holds .eq cs = false)) (by decide)) (fun _ => ?_)
  refine Goes.runS X [(.aload_n 0, 1)] (S' := [.ref a]) (pc' := 7) rfl ?_
  refine Goes.getF X 0 1 rfl rfl (wd hw 25 rfl) Via.refl ?_
  refine Goes.if1 X (pc' := 17) (o := 7) (cd := .ne) (fun q => absurd q (by decide)) (fun _ => ?_)
  refine Goes.runS X [(.iconst 1, 1)] (S' := [.int (1 : Int32)]) (pc' := 14) rfl ?_
  refine Goes.goto X (o := 4) (pc' := 18) ?_
  refine Goes.retI X (by simp) rfl ?_
  exact ⟨rfl, rfl⟩
set_option maxRecDepth 65536 in
set_option maxHeartbeats 40000000 in
theorem D_pci (l : Launch) (Z : State) (a0 : Array Value) (h0 : Heap) (hw : ∀ d ∈ tables_1, d.before a0 Z = true) (i n : Int32) (sio : Value) (hsio : sio.category = 1) (g0 : ¬ i < 0) (g1 : i < n) : Does l Z a0 h0 y_35 jdk_41_method_11_code 3 (some .int) ({ frames := 0, cells := 0, slots := 0, locals := 0 } : Room) #[.int i, .int n, sio] [] (fun v F => v = some (.int i) ∧ F = []) := by
  refine Does.mk #[.val (.int i), .val (.int n), .val (sio)] (plainFor_of_name (by decide +kernel)) (fun m => by first | (simp [entryFrame, mkF, argsToLocals, own_cI, own_cJ, own_cR, own_cN, hsio]; done) | rfl) ?_
  intro p e s m args below meth c h X
  show Goes _ _ _ _ _ _ _ _ _ _ _ _ _ _ _ _ _ _ _ _ [] 0 0 (mkF m 0 #[.val (.int i), .val (.int n), .val (sio)] [])
  refine Goes.runS X [(.iload_n 0, 1)] (S' := [.int i]) (pc' := 1) rfl ?_
  refine Goes.if1 X (pc' := 9) (o := 8) (cd := .lt) (fun q => absurd (q.symm.trans (by simpa [ifCond.holds] using g0 : ifCond.holds .lt i = false)) (by decide)) (fun _ => ?_)
  refine Goes.runS X [(.iload_n 0, 1), (.iload_n 1, 1)] (S' := [.int n, .int i]) (pc' := 6) rfl ?_
  refine Goes.if2 X (pc' := 16) (o := 10) (cd := .lt) (fun _ => ?_) (fun q => absurd (q.symm.trans (by simpa [if_icmp.holds] using g1 : if_icmp.holds .lt i n = true)) (by decide))
  refine Goes.runS X [(.iload_n 0, 1)] (S' := [.int i]) (pc' := 17) rfl ?_
  refine Goes.retI X (by simp) rfl ?_
  exact ⟨rfl, rfl⟩
set_option maxRecDepth 65536 in
set_option maxHeartbeats 40000000 in
theorem D_sci (l : Launch) (Z : State) (a0 : Array Value) (h0 : Heap) (hw : ∀ d ∈ tables_1, d.before a0 Z = true) (sio : Value) (hSIO : Sta Z h0 "jdk/internal/util/Preconditions" "SIOOBE_FORMATTER" "Ljava/util/function/BiFunction;" sio) (hsio : sio.category = 1) (i n : Int32) (g0 : ¬ i < 0) (g1 : i < n) : Does l Z a0 h0 y_34 jdk_42_method_155_code 2 none ({ frames := 1, cells := 0, slots := 0, locals := 14 } : Room) #[.int i, .int n] [] (fun v F => v = none ∧ F = []) := by
  refine Does.mk #[.val (.int i), .val (.int n)] (plainFor_of_name (by decide +kernel)) (fun m => by first | (simp [entryFrame, mkF, argsToLocals, Value.category]; done) | rfl) ?_
  intro p e s m args below meth c h X
  show Goes _ _ _ _ _ _ _ _ _ _ _ _ _ _ _ _ _ _ _ _ [] 0 0 (mkF m 0 #[.val (.int i), .val (.int n)] [])
  refine Goes.runS X [(.iload_n 0, 1), (.iload_n 1, 1)] (S' := [.int n, .int i]) (pc' := 2) rfl ?_
  refine Goes.getS X (wd hw 188 rfl) Via.refl hSIO ?_
  refine Goes.callS X 0 [] [] (D_pci l Z a0 h0 hw i n sio hsio g0 g1) (wd hw 190 rfl) (wd hw 191 rfl) (wd hw 189 rfl) (wd hw 192 rfl) pd_y_35 rfl (st := []) rfl rfl (G := []) rfl rfl ?_
  rintro _ _ ⟨rfl, rfl⟩
  refine ⟨Or.inr (Or.inr fun _ q => Or.inr (Or.inr q)), ?_⟩
  refine Goes.runS X [(.pop, 1)] (S' := []) (pc' := 9) rfl ?_
  refine Goes.retV X ?_
  exact ⟨rfl, rfl⟩
set_option maxRecDepth 65536 in
set_option maxHeartbeats 40000000 in
theorem D_lca (l : Launch) (Z : State) (a0 : Array Value) (h0 : Heap) (hw : ∀ d ∈ tables_1, d.before a0 Z = true) (sio : Value) (hSIO : Sta Z h0 "jdk/internal/util/Preconditions" "SIOOBE_FORMATTER" "Ljava/util/function/BiFunction;" sio) (hsio : sio.category = 1) (b : Addr) (tg : Nat) (D : String) (vs : List Value) (n i : Int32) (jn : Nat) (hn : vs.length.toInt32 = n) (hj : i.toNatClampNeg = jn) (g0 : ¬ i < 0) (g1 : i < n) (x : Int32) (hv : vs[jn]? = some (.int x)) : Does l Z a0 h0 y_33 jdk_43_method_2_code 2 (some .char) ({ frames := 2, cells := 0, slots := 0, locals := 27 } : Room) #[.ref b, .int i] [(b, ro tg (ar D .byte vs))] (fun v F => v = some (.int (x &&& 255)) ∧ F = [(b, ro tg (ar D .byte vs))]) := by
  refine Does.mk #[.val (.ref b), .val (.int i)] (plainFor_of_name (by decide +kernel)) (fun m => by first | (simp [entryFrame, mkF, argsToLocals, Value.category]; done) | rfl) ?_
  intro p e s m args below meth c h X
  show Goes _ _ _ _ _ _ _ _ _ _ _ _ _ _ _ _ _ _ _ _ [(b, ro tg (ar D .byte vs))] 0 0 (mkF m 0 #[.val (.ref b), .val (.int i)] [])
  refine Goes.runS X [(.iload_n 1, 1), (.aload_n 0, 1)] (S' := [.ref b, .int i]) (pc' := 2) rfl ?_
  refine Goes.alen X 0 (n := n) rfl hn ?_
  show Goes _ _ _ _ _ _ _ _ _ _ _ _ _ _ _ _ _ _ _ _ [(b, ro tg (ar D .byte vs))] 0 0 (mkF m 3 #[.val (.ref b), .val (.int i)] [.int n, .int i])
  refine Goes.callS X 0 [] [0] (D_sci l Z a0 h0 hw sio hSIO hsio i n g0 g1) (wd hw 185 rfl) (wd hw 186 rfl) (wd hw 3 rfl) (wd hw 187 rfl) pd_y_34 rfl (st := []) rfl rfl (G := [(b, ro tg (ar D .byte vs))]) rfl rfl ?_
  rintro _ _ ⟨rfl, rfl⟩
  refine ⟨Or.inr (Or.inr fun _ q => Or.inr (Or.inr q)), ?_⟩
  refine Goes.runS X [(.aload_n 0, 1), (.iload_n 1, 1)] (S' := [.int i, .ref b]) (pc' := 8) rfl ?_
  refine Goes.baload X 0 jn rfl hj g0 hv ?_
  show Goes _ _ _ _ _ _ _ _ _ _ _ _ _ _ _ _ _ _ _ _ [(b, ro tg (ar D .byte vs))] 0 0 (mkF m 9 #[.val (.ref b), .val (.int i)] [.int x])
  refine Goes.runS X [(.sipush 255, 3), (.iand, 1), (.i2c, 1)] (S' := [.int (oI2c (x &&& (255 : Int32)))]) (pc' := 14) rfl ?_
  rw [own_i2c (own_mask x 255 (by decide)).1 (own_mask x 255 (by decide)).2]
  show Goes _ _ _ _ _ _ _ _ _ _ _ _ _ _ _ _ _ _ _ _ [(b, ro tg (ar D .byte vs))] 0 0 (mkF m 14 #[.val (.ref b), .val (.int i)] [.int (x &&& (255 : Int32))])
  refine Goes.retI X (by simp) (own_nch (own_mask x 255 (by decide)).1 (own_mask x 255 (by decide)).2) ?_
  exact ⟨rfl, rfl⟩
set_option maxRecDepth 65536 in
set_option maxHeartbeats 40000000 in
theorem D_ca (l : Launch) (Z : State) (a0 : Array Value) (h0 : Heap) (hw : ∀ d ∈ tables_1, d.before a0 Z = true) (cs : Int32) (hCS : Sta Z h0 "java/lang/String" "COMPACT_STRINGS" "Z" (.int cs)) (hcs : ¬ cs = 0) (sio : Value) (hSIO : Sta Z h0 "jdk/internal/util/Preconditions" "SIOOBE_FORMATTER" "Ljava/util/function/BiFunction;" sio) (hsio : sio.category = 1) (b : Addr) (ts tg : Nat) (a : Addr) (D : String) (vs : List Value) (n i : Int32) (jn : Nat) (hn : vs.length.toInt32 = n) (hj : i.toNatClampNeg = jn) (g0 : ¬ i < 0) (g1 : i < n) (x : Int32) (hv : vs[jn]? = some (.int x)) : Does l Z a0 h0 y_31 jdk_42_method_56_code 2 (some .char) ({ frames := 3, cells := 0, slots := 0, locals := 40 } : Room) #[.ref a, .int i] [(a, ro ts (o_String (.ref b) (.int 0))), (b, ro tg (ar D .byte vs))] (fun v F => v = some (.int (x &&& 255)) ∧ F = [(a, ro ts (o_String (.ref b) (.int 0))), (b, ro tg (ar D .byte vs))]) := by
  refine Does.mk #[.val (.ref a), .val (.int i)] (plainFor_of_name (by decide +kernel)) (fun m => by first | (simp [entryFrame, mkF, argsToLocals, Value.category]; done) | rfl) ?_
  intro p e s m args below meth c h X
  show Goes _ _ _ _ _ _ _ _ _ _ _ _ _ _ _ _ _ _ _ _ [(a, ro ts (o_String (.ref b) (.int 0))), (b, ro tg (ar D .byte vs))] 0 0 (mkF m 0 #[.val (.ref a), .val (.int i)] [])
  refine Goes.runS X [(.aload_n 0, 1)] (S' := [.ref a]) (pc' := 1) rfl ?_
  refine Goes.callV X 0 0 [0] [1] rfl (D_sisl l Z a0 h0 hw cs hCS hcs a ts (.ref b)) (wd hw 177 rfl) (wd hw 178 rfl) (wd hw 180 rfl) (wd hw 179 rfl) (own_nf X (wd hw 180 rfl)) (wd hw 3 rfl) (wd hw 181 rfl) pd_y_32 rfl (st := []) rfl rfl (G := [(b, ro tg (ar D .byte vs))]) rfl rfl ?_
  rintro _ _ ⟨rfl, rfl⟩
  refine ⟨Or.inr (Or.inr fun _ q => Or.inr (Or.inr q)), ?_⟩
  refine Goes.if1 X (pc' := 16) (o := 12) (cd := .eq) (fun q => absurd q (by decide)) (fun _ => ?_)
  refine Goes.runS X [(.aload_n 0, 1)] (S' := [.ref a]) (pc' := 8) rfl ?_
  refine Goes.getF X 0 0 rfl rfl (wd hw 23 rfl) Via.refl ?_
  refine Goes.runS X [(.iload_n 1, 1)] (S' := [.int i, .ref b]) (pc' := 12) rfl ?_
  refine Goes.callS X 0 [1] [0] (D_lca l Z a0 h0 hw sio hSIO hsio b tg D vs n i jn hn hj g0 g1 x hv) (wd hw 182 rfl) (wd hw 183 rfl) (wd hw 8 rfl) (wd hw 184 rfl) pd_y_33 rfl (st := []) rfl rfl (G := [(a, ro ts (o_String (.ref b) (.int 0)))]) rfl rfl ?_
  rintro _ _ ⟨rfl, rfl⟩
  refine ⟨Or.inr (Or.inr fun _ q => Or.inr (Or.inr q)), ?_⟩
  refine Goes.sub [1, 0] (G := [(a, ro ts (o_String (.ref b) (.int 0))), (b, ro tg (ar D .byte vs))]) rfl ?_
  refine Goes.retI X (by simp) (own_nch (own_mask x 255 (by decide)).1 (own_mask x 255 (by decide)).2) ?_
  exact ⟨rfl, rfl⟩
abbrev own_by (c : Int32) : Value := .int (oI2b c)
def own_pad (l : List Int32) : List Value := l.map own_by ++ List.replicate (17 - l.length) (.int 0)
def own_padC (l : List Int32) : List Value := l.map Value.int ++ List.replicate (17 - l.length) (.int 0)
theorem own_pad_len (l : List Int32) (h : l.length ≤ 17) : (own_pad l).length = 17 := by simp [own_pad]; omega
theorem own_padC_len (l : List Int32) (h : l.length ≤ 17) : (own_padC l).length = 17 := by simp [own_padC]; omega
theorem own_pad_app (l m : List Int32) (h : l.length + m.length ≤ 17) : (own_pad l).take l.length ++ m.map own_by ++ (own_pad l).drop (l.length + m.length) = own_pad (l ++ m) := by
  unfold own_pad
  have hl : (l.map own_by).length = l.length := List.length_map ..
  rw [List.take_append_of_le_length (by omega), List.take_of_length_le (by omega), List.drop_append, List.drop_of_length_le (by omega), List.drop_replicate, hl, List.map_append, List.length_append]
  simp only [List.nil_append, List.append_assoc]
  congr 3
  omega
theorem own_pad_set (l : List Int32) (c : Int32) (h : l.length < 17) : (own_pad l).set l.length (own_by c) = own_pad (l ++ [c]) := by
  unfold own_pad
  have hl : (l.map own_by).length = l.length := List.length_map ..
  have e : 17 - l.length = (17 - (l.length + 1)) + 1 := by omega
  rw [List.set_append_right _ _ (by omega), hl, Nat.sub_self, e, List.replicate_succ, List.set_cons_zero, List.map_append, List.length_append, List.append_assoc]; rfl
theorem own_padC_set (l : List Int32) (c : Int32) (h : l.length < 17) : (own_padC l).set l.length (.int c) = own_padC (l ++ [c]) := by
  unfold own_padC
  have hl : (l.map Value.int).length = l.length := List.length_map ..
  have e : 17 - l.length = (17 - (l.length + 1)) + 1 := by omega
  rw [List.set_append_right _ _ (by omega), hl, Nat.sub_self, e, List.replicate_succ, List.set_cons_zero, List.map_append, List.length_append, List.append_assoc]; rfl
theorem own_us (l : List Int32) (n : Nat) (h : n ≤ l.length) (r : List Value) : (List.range n).map (fun k => (l.map own_by ++ r).getD (0 + k) (.int 0)) = (l.take n).map own_by := by
  apply List.ext_getElem
  · simp; omega
  · intro i h1 h2
    simp at h1
    simp [List.getD_eq_getElem?_getD, List.getElem?_append, show i < l.length from by omega, List.getElem?_eq_getElem (show i < l.length from by omega)]
theorem own_jn : ∀ j : Nat, j ≤ 17 → (Int32.ofNat j).toNatClampNeg = j ∧ ¬ (Int32.ofNat j) < 0 ∧ Int32.ofNat j + 1 = Int32.ofNat (j + 1) ∧ (Int32.ofNat j) >>> ((0 : Int32) &&& 31) = Int32.ofNat j ∧ (Int32.ofNat j) <<< ((0 : Int32) &&& 31) = Int32.ofNat j ∧ Int32.ofNat j - 0 = Int32.ofNat j := by decide +kernel
theorem own_add (j k : Nat) : Int32.ofNat j + Int32.ofNat k = Int32.ofNat (j + k) := (Int32.ofNat_add j k).symm
theorem own_cap : ∀ k : Nat, k ≤ 17 → ifCond.holds .le (Int32.ofNat k - ((17 : Int32) >>> ((0 : Int32) &&& 31))) = true := by decide +kernel
theorem own_c17 : ∀ k : Nat, k ≤ 17 → if_icmp.holds .eq (Int32.ofNat k) 17 = decide (k = 17) := by decide +kernel
theorem own_m17 : ∀ k : Nat, k ≤ 17 → if_icmp.holds .ge (Int32.ofNat k) 0 = true ∧ (if_icmp.holds .gt 17 (Int32.ofNat k) = decide (k < 17)) := by decide +kernel
theorem own_len {α β : Type} (f : α → β) (cl : List α) : (cl.map f).length.toInt32 = Int32.ofNat cl.length := by rw [List.length_map] <;> rfl
theorem own_len17 (l : List Int32) (h : l.length ≤ 17) : (own_pad l).length.toInt32 = 17 := by rw [own_pad_len l h]; rfl
set_option maxRecDepth 65536 in
set_option maxHeartbeats 40000000 in
theorem D_scod (l : Launch) (Z : State) (a0 : Array Value) (h0 : Heap) (hw : ∀ d ∈ tables_1, d.before a0 Z = true) (cs : Int32) (hCS : Sta Z h0 "java/lang/String" "COMPACT_STRINGS" "Z" (.int cs)) (hcs : ¬ cs = 0) (q b : Addr) (ts : Nat) : Does l Z a0 h0 y_8 jdk_42_method_152_code 1 (some .byte) ({ frames := 0, cells := 0, slots := 0, locals := 0 } : Room) #[.ref q] [(q, ro ts (o_String (.ref b) (.int 0)))] (fun v F => v = some (.int 0) ∧ F = [(q, ro ts (o_String (.ref b) (.int 0)))]) := by
  refine Does.mk #[.val (.ref q)] (plainFor_of_name (by decide +kernel)) (fun m => by first | (simp [entryFrame, mkF, argsToLocals, Value.category]; done) | rfl) ?_
  intro p e s m args below meth c h X
  show Goes _ _ _ _ _ _ _ _ _ _ _ _ _ _ _ _ _ _ _ _ [(q, ro ts (o_String (.ref b) (.int 0)))] 0 0 (mkF m 0 #[.val (.ref q)] [])
  refine Goes.getS X (wd hw 5 rfl) Via.refl hCS ?_
  refine Goes.if1 X (pc' := 13) (o := 10) (cd := .eq) (fun q => absurd (q.symm.trans (by simpa [ifCond.holds] using hcs : ifCond.holds .eq cs = false)) (by decide)) (fun _ => ?_)
  refine Goes.runS X [(.aload_n 0, 1)] (S' := [.ref q]) (pc' := 7) rfl ?_
  refine Goes.getF X 0 1 rfl rfl (wd hw 25 rfl) Via.refl ?_
  refine Goes.goto X (o := 4) (pc' := 14) ?_
  refine Goes.retI X (by simp) rfl ?_
  exact ⟨rfl, rfl⟩
set_option maxRecDepth 65536 in
set_option maxHeartbeats 40000000 in
theorem D_slen (l : Launch) (Z : State) (a0 : Array Value) (h0 : Heap) (hw : ∀ d ∈ tables_1, d.before a0 Z = true) (cs : Int32) (hCS : Sta Z h0 "java/lang/String" "COMPACT_STRINGS" "Z" (.int cs)) (hcs : ¬ cs = 0) (q b : Addr) (ts tb : Nat) (D : String) (mm : List Int32) (hm : mm.length ≤ 17) : Does l Z a0 h0 y_7 jdk_42_method_54_code 1 (some .int) ({ frames := 1, cells := 0, slots := 0, locals := 13 } : Room) #[.ref q] [(q, ro ts (o_String (.ref b) (.int 0))), (b, ro tb (ar D .byte (mm.map own_by)))] (fun v F => v = some (.int (Int32.ofNat mm.length)) ∧ F = [(q, ro ts (o_String (.ref b) (.int 0))), (b, ro tb (ar D .byte (mm.map own_by)))]) := by
  refine Does.mk #[.val (.ref q)] (plainFor_of_name (by decide +kernel)) (fun m => by first | (simp [entryFrame, mkF, argsToLocals, Value.category]; done) | rfl) ?_
  intro p e s m args below meth c h X
  show Goes _ _ _ _ _ _ _ _ _ _ _ _ _ _ _ _ _ _ _ _ [(q, ro ts (o_String (.ref b) (.int 0))), (b, ro tb (ar D .byte (mm.map own_by)))] 0 0 (mkF m 0 #[.val (.ref q)] [])
  refine Goes.runS X [(.aload_n 0, 1)] (S' := [.ref q]) (pc' := 1) rfl ?_
  refine Goes.getF X 0 0 rfl rfl (wd hw 23 rfl) Via.refl ?_
  refine Goes.alen X 1 (n := Int32.ofNat mm.length) rfl (own_len _ mm) ?_
  show Goes _ _ _ _ _ _ _ _ _ _ _ _ _ _ _ _ _ _ _ _ [(q, ro ts (o_String (.ref b) (.int 0))), (b, ro tb (ar D .byte (mm.map own_by)))] 0 0 (mkF m 5 #[.val (.ref q)] [.int (Int32.ofNat mm.length)])
  refine Goes.runS X [(.aload_n 0, 1)] (S' := [.ref q, .int (Int32.ofNat mm.length)]) (pc' := 6) rfl ?_
  refine Goes.callV X 1 0 [0] [1] rfl (D_scod l Z a0 h0 hw cs hCS hcs q b ts) (wd hw 55 rfl) (wd hw 56 rfl) (wd hw 58 rfl) (wd hw 57 rfl) (own_nf X (wd hw 58 rfl)) (wd hw 3 rfl) (wd hw 59 rfl) pd_y_8 rfl (st := [.int (Int32.ofNat mm.length)]) rfl rfl (G := [(b, ro tb (ar D .byte (mm.map own_by)))]) rfl rfl ?_
  rintro _ _ ⟨rfl, rfl⟩
  refine ⟨Or.inr (Or.inr fun _ q => Or.inr (Or.inr q)), ?_⟩
  refine Goes.runS X [(.ishr, 1)] (S' := [.int ((Int32.ofNat mm.length) >>> ((0 : Int32) &&& 31))]) (pc' := 10) rfl ?_
  rw [(own_jn mm.length hm).2.2.2.1]
  show Goes _ _ _ _ _ _ _ _ _ _ _ _ _ _ _ _ _ _ _ _ [(q, ro ts (o_String (.ref b) (.int 0))), (b, ro tb (ar D .byte (mm.map own_by)))] 0 0 (mkF m 10 #[.val (.ref q)] [.int (Int32.ofNat mm.length)])
  refine Goes.retI X (by simp) rfl ?_
  exact ⟨rfl, rfl⟩
set_option maxRecDepth 65536 in
set_option maxHeartbeats 40000000 in
theorem D_gb (l : Launch) (Z : State) (a0 : Array Value) (h0 : Heap) (hw : ∀ d ∈ tables_1, d.before a0 Z = true) (cs : Int32) (hCS : Sta Z h0 "java/lang/String" "COMPACT_STRINGS" "Z" (.int cs)) (hcs : ¬ cs = 0) (q b : Addr) (ts tb : Nat) (D : String) (mm : List Int32) (v : Addr) (ll : List Int32) (hlm : ll.length + mm.length ≤ 17) : Does l Z a0 h0 y_15 jdk_42_method_147_code 4 none ({ frames := 1, cells := 0, slots := 0, locals := 40 } : Room) #[.ref q, .ref v, .int (Int32.ofNat ll.length), .int 0] [(q, ro ts (o_String (.ref b) (.int 0))), (b, ro tb (ar D .byte (mm.map own_by))), (v, oBs (own_pad ll))] (fun r F => r = none ∧ F = [(q, ro ts (o_String (.ref b) (.int 0))), (b, ro tb (ar D .byte (mm.map own_by))), (v, oBs (own_pad (ll ++ mm)))]) := by
  refine Does.mk #[.val (.ref q), .val (.ref v), .val (.int (Int32.ofNat ll.length)), .val (.int 0)] (plainFor_of_name (by decide +kernel)) (fun m => by first | (simp [entryFrame, mkF, argsToLocals, Value.category]; done) | rfl) ?_
  intro p e s m args below meth c h X
  show Goes _ _ _ _ _ _ _ _ _ _ _ _ _ _ _ _ _ _ _ _ [(q, ro ts (o_String (.ref b) (.int 0))), (b, ro tb (ar D .byte (mm.map own_by))), (v, oBs (own_pad ll))] 0 0 (mkF m 0 #[.val (.ref q), .val (.ref v), .val (.int (Int32.ofNat ll.length)), .val (.int 0)] [])
  refine Goes.runS X [(.aload_n 0, 1)] (S' := [.ref q]) (pc' := 1) rfl ?_
  refine Goes.callV X 0 0 [0] [1, 2] rfl (D_scod l Z a0 h0 hw cs hCS hcs q b ts) (wd hw 55 rfl) (wd hw 56 rfl) (wd hw 58 rfl) (wd hw 57 rfl) (own_nf X (wd hw 58 rfl)) (wd hw 3 rfl) (wd hw 59 rfl) pd_y_8 rfl (st := []) rfl rfl (G := [(b, ro tb (ar D .byte (mm.map own_by))), (v, oBs (own_pad ll))]) rfl rfl ?_
  rintro _ _ ⟨rfl, rfl⟩
  refine ⟨Or.inr (Or.inr fun _ q => Or.inr (Or.inr q)), ?_⟩
  refine Goes.runS X [(.iload_n 3, 1)] (S' := [.int 0, .int (0 : Int32)]) (pc' := 5) rfl ?_
  refine Goes.if2 X (pc' := 28) (o := 23) (cd := .ne) (fun q => absurd q (by decide)) (fun _ => ?_)
  refine Goes.runS X [(.aload_n 0, 1)] (S' := [.ref q]) (pc' := 9) rfl ?_
  refine Goes.getF X 0 0 rfl rfl (wd hw 23 rfl) Via.refl ?_
  refine Goes.runS X [(.iconst 0, 1), (.aload_n 1, 1), (.iload_n 2, 1), (.iload_n 3, 1), (.ishl, 1)] (S' := [.int ((Int32.ofNat ll.length) <<< (0 &&& 31)), .ref v, .int (0 : Int32), .ref b]) (pc' := 17) rfl ?_
  rw [(own_jn ll.length (by omega)).2.2.2.2.1]
  show Goes _ _ _ _ _ _ _ _ _ _ _ _ _ _ _ _ _ _ _ _ [(q, ro ts (o_String (.ref b) (.int 0))), (b, ro tb (ar D .byte (mm.map own_by))), (v, oBs (own_pad ll))] 0 0 (mkF m 17 #[.val (.ref q), .val (.ref v), .val (.int (Int32.ofNat ll.length)), .val (.int 0)] [.int (Int32.ofNat ll.length), .ref v, .int (0 : Int32), .ref b])
  refine Goes.runS X [(.aload_n 0, 1)] (S' := [.ref q, .int (Int32.ofNat ll.length), .ref v, .int (0 : Int32), .ref b]) (pc' := 18) rfl ?_
  refine Goes.getF X 0 0 rfl rfl (wd hw 23 rfl) Via.refl ?_
  refine Goes.alen X 1 (n := Int32.ofNat mm.length) rfl (own_len _ mm) ?_
  show Goes _ _ _ _ _ _ _ _ _ _ _ _ _ _ _ _ _ _ _ _ [(q, ro ts (o_String (.ref b) (.int 0))), (b, ro tb (ar D .byte (mm.map own_by))), (v, oBs (own_pad ll))] 0 0 (mkF m 22 #[.val (.ref q), .val (.ref v), .val (.int (Int32.ofNat ll.length)), .val (.int 0)] [.int (Int32.ofNat mm.length), .int (Int32.ofNat ll.length), .ref v, .int (0 : Int32), .ref b])
  refine Goes.acopy X 0 1 2 (mm.map own_by) 0 ll.length mm.length (wd hw 103 rfl) (wd hw 106 rfl) (wd hw 104 rfl) (wd hw 105 rfl) rfl rfl (by decide) (own_jn ll.length (by omega)).2.1 (own_jn mm.length (by omega)).2.1 rfl (own_jn ll.length (by omega)).1 (own_jn mm.length (by omega)).1 (by simp) (by rw [own_pad_len ll (by omega)]; omega) (by have q := own_us mm mm.length (Nat.le_refl _) []; rw [List.append_nil, List.take_length] at q; exact q.symm) rfl ?_
  show Goes _ _ _ _ _ _ _ _ _ _ _ _ _ _ _ _ _ _ _ _ [(q, ro ts (o_String (.ref b) (.int 0))), (b, ro tb (ar D .byte (mm.map own_by))), (v, oBs ((own_pad ll).take ll.length ++ mm.map own_by ++ (own_pad ll).drop (ll.length + mm.length)))] 0 0 (mkF m 25 #[.val (.ref q), .val (.ref v), .val (.int (Int32.ofNat ll.length)), .val (.int 0)] [])
  rw [own_pad_app ll mm hlm]
  show Goes _ _ _ _ _ _ _ _ _ _ _ _ _ _ _ _ _ _ _ _ [(q, ro ts (o_String (.ref b) (.int 0))), (b, ro tb (ar D .byte (mm.map own_by))), (v, oBs (own_pad (ll ++ mm)))] 0 0 (mkF m 25 #[.val (.ref q), .val (.ref v), .val (.int (Int32.ofNat ll.length)), .val (.int 0)] [])
  refine Goes.goto X (o := 18) (pc' := 43) ?_
  refine Goes.sub [0, 1, 2] (G := [(q, ro ts (o_String (.ref b) (.int 0))), (b, ro tb (ar D .byte (mm.map own_by))), (v, oBs (own_pad (ll ++ mm)))]) rfl ?_
  refine Goes.retV X ?_
  exact ⟨rfl, rfl⟩
set_option maxRecDepth 65536 in
set_option maxHeartbeats 40000000 in
theorem D_inf (l : Launch) (Z : State) (a0 : Array Value) (h0 : Heap) (hw : ∀ d ∈ tables_1, d.before a0 Z = true) (cs : Int32) (hCS : Sta Z h0 "java/lang/String" "COMPACT_STRINGS" "Z" (.int cs)) (hcs : ¬ cs = 0) (a v q b : Addr) (ts : Nat) (k : Nat) : Does l Z a0 h0 y_14 jdk_68_method_71_code 2 none ({ frames := 1, cells := 0, slots := 0, locals := 13 } : Room) #[.ref a, .ref q] [(a, o_SB (.ref v) (.int 0) (.int (Int32.ofNat k))), (q, ro ts (o_String (.ref b) (.int 0)))] (fun r F => r = none ∧ F = [(a, o_SB (.ref v) (.int 0) (.int (Int32.ofNat k))), (q, ro ts (o_String (.ref b) (.int 0)))]) := by
  refine Does.mk #[.val (.ref a), .val (.ref q)] (plainFor_of_name (by decide +kernel)) (fun m => by first | (simp [entryFrame, mkF, argsToLocals, Value.category]; done) | rfl) ?_
  intro p e s m args below meth c h X
  show Goes _ _ _ _ _ _ _ _ _ _ _ _ _ _ _ _ _ _ _ _ [(a, o_SB (.ref v) (.int 0) (.int (Int32.ofNat k))), (q, ro ts (o_String (.ref b) (.int 0)))] 0 0 (mkF m 0 #[.val (.ref a), .val (.ref q)] [])
  refine Goes.getS X (wd hw 97 rfl) Via.refl hCS ?_
  refine Goes.if1 X (pc' := 21) (o := 18) (cd := .eq) (fun q => absurd (q.symm.trans (by simpa [ifCond.holds] using hcs : ifCond.holds .eq cs = false)) (by decide)) (fun _ => ?_)
  refine Goes.runS X [(.aload_n 0, 1)] (S' := [.ref a]) (pc' := 7) rfl ?_
  refine Goes.getF X 0 1 rfl rfl (wd hw 62 rfl) Via.refl ?_
  refine Goes.runS X [(.aload_n 1, 1)] (S' := [.ref q, .int (0 : Int32)]) (pc' := 11) rfl ?_
  refine Goes.callV X 1 1 [1] [0] rfl (D_scod l Z a0 h0 hw cs hCS hcs q b ts) (wd hw 61 rfl) (wd hw 56 rfl) (wd hw 58 rfl) (wd hw 57 rfl) (own_nf X (wd hw 58 rfl)) (wd hw 3 rfl) (wd hw 59 rfl) pd_y_8 rfl (st := [.int (0 : Int32)]) rfl rfl (G := [(a, o_SB (.ref v) (.int 0) (.int (Int32.ofNat k)))]) rfl rfl ?_
  rintro _ _ ⟨rfl, rfl⟩
  refine ⟨Or.inr (Or.inr fun _ q => Or.inr (Or.inr q)), ?_⟩
  refine Goes.if2 X (pc' := 21) (o := 7) (cd := .eq) (fun _ => ?_) (fun q => absurd q (by decide))
  refine Goes.sub [1, 0] (G := [(a, o_SB (.ref v) (.int 0) (.int (Int32.ofNat k))), (q, ro ts (o_String (.ref b) (.int 0)))]) rfl ?_
  refine Goes.retV X ?_
  exact ⟨rfl, rfl⟩
set_option maxRecDepth 65536 in
set_option maxHeartbeats 40000000 in
theorem D_psa (l : Launch) (Z : State) (a0 : Array Value) (h0 : Heap) (hw : ∀ d ∈ tables_1, d.before a0 Z = true) (cs : Int32) (hCS : Sta Z h0 "java/lang/String" "COMPACT_STRINGS" "Z" (.int cs)) (hcs : ¬ cs = 0) (a v : Addr) (q b : Addr) (ts tb : Nat) (D : String) (mm : List Int32) (ll : List Int32) (hlm : ll.length + mm.length ≤ 17) : Does l Z a0 h0 y_13 jdk_68_method_73_code 3 none ({ frames := 2, cells := 0, slots := 0, locals := 55 } : Room) #[.ref a, .int (Int32.ofNat ll.length), .ref q] [(a, o_SB (.ref v) (.int 0) (.int (Int32.ofNat ll.length))), (v, oBs (own_pad ll)), (q, ro ts (o_String (.ref b) (.int 0))), (b, ro tb (ar D .byte (mm.map own_by)))] (fun r F => r = none ∧ F = [(a, o_SB (.ref v) (.int 0) (.int (Int32.ofNat ll.length))), (v, oBs (own_pad (ll ++ mm))), (q, ro ts (o_String (.ref b) (.int 0))), (b, ro tb (ar D .byte (mm.map own_by)))]) := by
  refine Does.mk #[.val (.ref a), .val (.int (Int32.ofNat ll.length)), .val (.ref q)] (plainFor_of_name (by decide +kernel)) (fun m => by first | (simp [entryFrame, mkF, argsToLocals, Value.category]; done) | rfl) ?_
  intro p e s m args below meth c h X
  show Goes _ _ _ _ _ _ _ _ _ _ _ _ _ _ _ _ _ _ _ _ [(a, o_SB (.ref v) (.int 0) (.int (Int32.ofNat ll.length))), (v, oBs (own_pad ll)), (q, ro ts (o_String (.ref b) (.int 0))), (b, ro tb (ar D .byte (mm.map own_by)))] 0 0 (mkF m 0 #[.val (.ref a), .val (.int (Int32.ofNat ll.length)), .val (.ref q)] [])
  refine Goes.runS X [(.aload_n 0, 1), (.aload_n 2, 1)] (S' := [.ref q, .ref a]) (pc' := 2) rfl ?_
  refine Goes.callP X 0 0 [0, 2] [1, 3] rfl (D_inf l Z a0 h0 hw cs hCS hcs a v q b ts ll.length) (wd hw 92 rfl) (wd hw 93 rfl) (wd hw 94 rfl) (own_nf2 X (wd hw 85 rfl) rfl) (wd hw 47 rfl) (wd hw 96 rfl) pd_y_14 rfl (st := []) rfl rfl (G := [(v, oBs (own_pad ll)), (b, ro tb (ar D .byte (mm.map own_by)))]) rfl rfl ?_
  rintro _ _ ⟨rfl, rfl⟩
  refine ⟨Or.inr (Or.inr fun _ q => Or.inr (Or.inr q)), ?_⟩
  refine Goes.runS X [(.aload_n 2, 1), (.aload_n 0, 1)] (S' := [.ref a, .ref q]) (pc' := 7) rfl ?_
  refine Goes.getF X 0 0 rfl rfl (wd hw 64 rfl) Via.refl ?_
  refine Goes.runS X [(.iload_n 1, 1), (.aload_n 0, 1)] (S' := [.ref a, .int (Int32.ofNat ll.length), .ref v, .ref q]) (pc' := 12) rfl ?_
  refine Goes.getF X 0 1 rfl rfl (wd hw 62 rfl) Via.refl ?_
  refine Goes.callV X 0 1 [1, 3, 2] [0] rfl (D_gb l Z a0 h0 hw cs hCS hcs q b ts tb D mm v ll hlm) (wd hw 98 rfl) (wd hw 99 rfl) (wd hw 101 rfl) (wd hw 100 rfl) (own_nf X (wd hw 101 rfl)) (wd hw 3 rfl) (wd hw 102 rfl) pd_y_15 rfl (st := []) rfl rfl (G := [(a, o_SB (.ref v) (.int 0) (.int (Int32.ofNat ll.length)))]) rfl rfl ?_
  rintro _ _ ⟨rfl, rfl⟩
  refine ⟨Or.inr (Or.inr (by simp)), ?_⟩
  refine Goes.sub [3, 2, 0, 1] (G := [(a, o_SB (.ref v) (.int 0) (.int (Int32.ofNat ll.length))), (v, oBs (own_pad (ll ++ mm))), (q, ro ts (o_String (.ref b) (.int 0))), (b, ro tb (ar D .byte (mm.map own_by)))]) rfl ?_
  refine Goes.retV X ?_
  exact ⟨rfl, rfl⟩
set_option maxRecDepth 65536 in
set_option maxHeartbeats 40000000 in
theorem D_ens (l : Launch) (Z : State) (a0 : Array Value) (h0 : Heap) (hw : ∀ d ∈ tables_1, d.before a0 Z = true) (a v : Addr) (ll : List Int32) (hl : ll.length ≤ 17) (k n : Nat) (hn : n ≤ 17) : Does l Z a0 h0 y_12 jdk_68_method_9_code 3 none ({ frames := 0, cells := 0, slots := 0, locals := 0 } : Room) #[.ref a, .int (Int32.ofNat n)] [(a, o_SB (.ref v) (.int 0) (.int (Int32.ofNat k))), (v, oBs (own_pad ll))] (fun r F => r = none ∧ F = [(a, o_SB (.ref v) (.int 0) (.int (Int32.ofNat k))), (v, oBs (own_pad ll))]) := by
  refine Does.mk #[.val (.ref a), .val (.int (Int32.ofNat n)), .unset] (plainFor_of_name (by decide +kernel)) (fun m => by first | (simp [entryFrame, mkF, argsToLocals, Value.category]; done) | rfl) ?_
  intro p e s m args below meth c h X
  show Goes _ _ _ _ _ _ _ _ _ _ _ _ _ _ _ _ _ _ _ _ [(a, o_SB (.ref v) (.int 0) (.int (Int32.ofNat k))), (v, oBs (own_pad ll))] 0 0 (mkF m 0 #[.val (.ref a), .val (.int (Int32.ofNat n)), .unset] [])
  refine Goes.runS X [(.aload_n 0, 1)] (S' := [.ref a]) (pc' := 1) rfl ?_
  refine Goes.getF X 0 0 rfl rfl (wd hw 64 rfl) Via.refl ?_
  refine Goes.alen X 1 (n := 17) rfl (own_len17 ll hl) ?_
  show Goes _ _ _ _ _ _ _ _ _ _ _ _ _ _ _ _ _ _ _ _ [(a, o_SB (.ref v) (.int 0) (.int (Int32.ofNat k))), (v, oBs (own_pad ll))] 0 0 (mkF m 5 #[.val (.ref a), .val (.int (Int32.ofNat n)), .unset] [.int (17 : Int32)])
  refine Goes.runS X [(.aload_n 0, 1)] (S' := [.ref a, .int (17 : Int32)]) (pc' := 6) rfl ?_
  refine Goes.getF X 0 1 rfl rfl (wd hw 62 rfl) Via.refl ?_
  refine Goes.run X [(.ishr, 1), (.istore_n 2, 1), (.iload_n 1, 1), (.iload_n 2, 1), (.isub, 1)] (L' := #[.val (.ref a), .val (.int (Int32.ofNat n)), .val (.int ((17 : Int32) >>> ((0 : Int32) &&& 31)))]) (S' := [.int ((Int32.ofNat n) - ((17 : Int32) >>> ((0 : Int32) &&& 31)))]) (pc' := 14) rfl ?_
  refine Goes.if1 X (pc' := 38) (o := 24) (cd := .le) (fun _ => ?_) (fun q => absurd (q.symm.trans (own_cap n hn)) (by decide))
  refine Goes.retV X ?_
  exact ⟨rfl, rfl⟩
theorem own_apl (ll mm : List Int32) : Int32.ofNat ll.length + Int32.ofNat mm.length = Int32.ofNat (ll ++ mm).length := by rw [List.length_append, own_add]
theorem pf_0 : parseFieldDescriptor "I" = some .int := by decide +kernel
set_option maxRecDepth 65536 in
set_option maxHeartbeats 40000000 in
theorem D_aap (l : Launch) (Z : State) (a0 : Array Value) (h0 : Heap) (hw : ∀ d ∈ tables_1, d.before a0 Z = true) (cs : Int32) (hCS : Sta Z h0 "java/lang/String" "COMPACT_STRINGS" "Z" (.int cs)) (hcs : ¬ cs = 0) (a v : Addr) (q b : Addr) (ts tb : Nat) (D : String) (mm : List Int32) (ll : List Int32) (hlm : ll.length + mm.length ≤ 17) : Does l Z a0 h0 y_11 jdk_68_method_22_code 3 (some (.object "java/lang/AbstractStringBuilder")) ({ frames := 3, cells := 0, slots := 0, locals := 69 } : Room) #[.ref a, .ref q] [(a, o_SB (.ref v) (.int 0) (.int (Int32.ofNat ll.length))), (v, oBs (own_pad ll)), (q, ro ts (o_String (.ref b) (.int 0))), (b, ro tb (ar D .byte (mm.map own_by)))] (fun r F => r = some (.ref a) ∧ F = [(a, o_SB (.ref v) (.int 0) (.int (Int32.ofNat (ll ++ mm).length))), (v, oBs (own_pad (ll ++ mm))), (q, ro ts (o_String (.ref b) (.int 0))), (b, ro tb (ar D .byte (mm.map own_by)))]) := by
  refine Does.mk #[.val (.ref a), .val (.ref q), .unset] (plainFor_of_name (by decide +kernel)) (fun m => by first | (simp [entryFrame, mkF, argsToLocals, Value.category]; done) | rfl) ?_
  intro p e s m args below meth c h X
  show Goes _ _ _ _ _ _ _ _ _ _ _ _ _ _ _ _ _ _ _ _ [(a, o_SB (.ref v) (.int 0) (.int (Int32.ofNat ll.length))), (v, oBs (own_pad ll)), (q, ro ts (o_String (.ref b) (.int 0))), (b, ro tb (ar D .byte (mm.map own_by)))] 0 0 (mkF m 0 #[.val (.ref a), .val (.ref q), .unset] [])
  have hm : mm.length ≤ 17 := by omega
  refine Goes.runS X [(.aload_n 1, 1)] (S' := [.ref q]) (pc' := 1) rfl ?_
  refine Goes.nonY X (o := 8) (pc' := 9) ?_
  refine Goes.runS X [(.aload_n 1, 1)] (S' := [.ref q]) (pc' := 10) rfl ?_
  refine Goes.callV X 0 2 [2, 3] [0, 1] rfl (D_slen l Z a0 h0 hw cs hCS hcs q b ts tb D mm hm) (wd hw 50 rfl) (wd hw 51 rfl) (wd hw 53 rfl) (wd hw 52 rfl) (own_nf X (wd hw 53 rfl)) (wd hw 3 rfl) (wd hw 54 rfl) pd_y_7 rfl (st := []) rfl rfl (G := [(a, o_SB (.ref v) (.int 0) (.int (Int32.ofNat ll.length))), (v, oBs (own_pad ll))]) rfl rfl ?_
  rintro _ _ ⟨rfl, rfl⟩
  refine ⟨Or.inr (Or.inr fun _ q => Or.inr (Or.inr q)), ?_⟩
  refine Goes.run X [(.istore_n 2, 1), (.aload_n 0, 1), (.aload_n 0, 1)] (L' := #[.val (.ref a), .val (.ref q), .val (.int (Int32.ofNat mm.length))]) (S' := [.ref a, .ref a]) (pc' := 16) rfl ?_
  refine Goes.getF X 2 2 rfl rfl (wd hw 80 rfl) Via.refl ?_
  refine Goes.runS X [(.iload_n 2, 1), (.iadd, 1)] (S' := [.int ((Int32.ofNat ll.length) + (Int32.ofNat mm.length)), .ref a]) (pc' := 21) rfl ?_
  rw [own_add]
  show Goes _ _ _ _ _ _ _ _ _ _ _ _ _ _ _ _ _ _ _ _ [(q, ro ts (o_String (.ref b) (.int 0))), (b, ro tb (ar D .byte (mm.map own_by))), (a, o_SB (.ref v) (.int 0) (.int (Int32.ofNat ll.length))), (v, oBs (own_pad ll))] 0 0 (mkF m 21 #[.val (.ref a), .val (.ref q), .val (.int (Int32.ofNat mm.length))] [.int (Int32.ofNat (ll.length + mm.length)), .ref a])
  refine Goes.callP X 0 2 [2, 3] [0, 1] rfl (D_ens l Z a0 h0 hw a v ll (by omega) ll.length (ll.length + mm.length) hlm) (wd hw 82 rfl) (wd hw 83 rfl) (wd hw 84 rfl) (own_nf X (wd hw 85 rfl)) (wd hw 47 rfl) (wd hw 86 rfl) pd_y_12 rfl (st := []) rfl rfl (G := [(q, ro ts (o_String (.ref b) (.int 0))), (b, ro tb (ar D .byte (mm.map own_by)))]) rfl rfl ?_
  rintro _ _ ⟨rfl, rfl⟩
  refine ⟨Or.inr (Or.inr fun _ q => Or.inr (Or.inr q)), ?_⟩
  refine Goes.runS X [(.aload_n 0, 1), (.aload_n 0, 1)] (S' := [.ref a, .ref a]) (pc' := 26) rfl ?_
  refine Goes.getF X 0 2 rfl rfl (wd hw 80 rfl) Via.refl ?_
  refine Goes.runS X [(.aload_n 1, 1)] (S' := [.ref q, .int (Int32.ofNat ll.length), .ref a]) (pc' := 30) rfl ?_
  refine Goes.callP X 0 0 [0, 1, 2, 3] [] rfl (D_psa l Z a0 h0 hw cs hCS hcs a v q b ts tb D mm ll hlm) (wd hw 87 rfl) (wd hw 88 rfl) (wd hw 89 rfl) (own_nf2 X (wd hw 85 rfl) rfl) (wd hw 47 rfl) (wd hw 91 rfl) pd_y_13 rfl (st := []) rfl rfl (G := []) rfl rfl ?_
  rintro _ _ ⟨rfl, rfl⟩
  refine ⟨Or.inr (Or.inl rfl), ?_⟩
  refine Goes.runS X [(.aload_n 0, 1), (.dup, 1)] (S' := [.ref a, .ref a]) (pc' := 35) rfl ?_
  refine Goes.getF X 0 2 rfl rfl (wd hw 80 rfl) Via.refl ?_
  refine Goes.runS X [(.iload_n 2, 1), (.iadd, 1)] (S' := [.int ((Int32.ofNat ll.length) + (Int32.ofNat mm.length)), .ref a]) (pc' := 40) rfl ?_
  rw [own_apl]
  show Goes _ _ _ _ _ _ _ _ _ _ _ _ _ _ _ _ _ _ _ _ [(a, o_SB (.ref v) (.int 0) (.int (Int32.ofNat ll.length))), (v, oBs (own_pad (ll ++ mm))), (q, ro ts (o_String (.ref b) (.int 0))), (b, ro tb (ar D .byte (mm.map own_by)))] 0 0 (mkF m 40 #[.val (.ref a), .val (.ref q), .val (.int (Int32.ofNat mm.length))] [.int (Int32.ofNat (ll ++ mm).length), .ref a])
  refine Goes.putF X 0 2 rfl rfl (wd hw 80 rfl) Via.refl (Or.inl (wd hw 81 rfl)) (wd hw 37 rfl) (own_hn rfl rfl nd_SB) (ty := .int) pf_0 rfl rfl ?_
  refine Goes.runS X [(.aload_n 0, 1)] (S' := [.ref a]) (pc' := 44) rfl ?_
  refine Goes.sub [0, 1, 2, 3] (G := [(a, o_SB (.ref v) (.int 0) (.int (Int32.ofNat (ll ++ mm).length))), (v, oBs (own_pad (ll ++ mm))), (q, ro ts (o_String (.ref b) (.int 0))), (b, ro tb (ar D .byte (mm.map own_by)))]) rfl ?_
  refine Goes.retA X rfl rfl rfl ?_
  exact ⟨rfl, rfl⟩
set_option maxRecDepth 65536 in
set_option maxHeartbeats 40000000 in
theorem D_sap (l : Launch) (Z : State) (a0 : Array Value) (h0 : Heap) (hw : ∀ d ∈ tables_1, d.before a0 Z = true) (cs : Int32) (hCS : Sta Z h0 "java/lang/String" "COMPACT_STRINGS" "Z" (.int cs)) (hcs : ¬ cs = 0) (a v : Addr) (q b : Addr) (ts tb : Nat) (D : String) (mm : List Int32) (ll : List Int32) (hlm : ll.length + mm.length ≤ 17) : Does l Z a0 h0 y_10 jdk_67_method_7_code 2 (some (.object "java/lang/StringBuilder")) ({ frames := 4, cells := 0, slots := 0, locals := 83 } : Room) #[.ref a, .ref q] [(a, o_SB (.ref v) (.int 0) (.int (Int32.ofNat ll.length))), (v, oBs (own_pad ll)), (q, ro ts (o_String (.ref b) (.int 0))), (b, ro tb (ar D .byte (mm.map own_by)))] (fun r F => r = some (.ref a) ∧ F = [(a, o_SB (.ref v) (.int 0) (.int (Int32.ofNat (ll ++ mm).length))), (v, oBs (own_pad (ll ++ mm))), (q, ro ts (o_String (.ref b) (.int 0))), (b, ro tb (ar D .byte (mm.map own_by)))]) := by
  refine Does.mk #[.val (.ref a), .val (.ref q)] (plainFor_of_name (by decide +kernel)) (fun m => by first | (simp [entryFrame, mkF, argsToLocals, Value.category]; done) | rfl) ?_
  intro p e s m args below meth c h X
  show Goes _ _ _ _ _ _ _ _ _ _ _ _ _ _ _ _ _ _ _ _ [(a, o_SB (.ref v) (.int 0) (.int (Int32.ofNat ll.length))), (v, oBs (own_pad ll)), (q, ro ts (o_String (.ref b) (.int 0))), (b, ro tb (ar D .byte (mm.map own_by)))] 0 0 (mkF m 0 #[.val (.ref a), .val (.ref q)] [])
  refine Goes.runS X [(.aload_n 0, 1), (.aload_n 1, 1)] (S' := [.ref q, .ref a]) (pc' := 2) rfl ?_
  refine Goes.callU X 0 0 [0, 1, 2, 3] [] rfl (D_aap l Z a0 h0 hw cs hCS hcs a v q b ts tb D mm ll hlm) (wd hw 77 rfl) (wd hw 68 rfl) (wd hw 78 rfl) (own_same (wd hw 85 rfl) rfl (wd hw 68 rfl) (by decide)) (by decide) (wd hw 47 rfl) (wd hw 79 rfl) pd_y_11 rfl (st := []) rfl rfl (G := []) rfl rfl ?_
  rintro _ _ ⟨rfl, rfl⟩
  refine ⟨Or.inr (Or.inl rfl), ?_⟩
  refine Goes.runS X [(.pop, 1), (.aload_n 0, 1)] (S' := [.ref a]) (pc' := 7) rfl ?_
  refine Goes.retA X rfl rfl rfl ?_
  exact ⟨rfl, rfl⟩
set_option maxRecDepth 65536 in
set_option maxHeartbeats 40000000 in
theorem D_brg (l : Launch) (Z : State) (a0 : Array Value) (h0 : Heap) (hw : ∀ d ∈ tables_1, d.before a0 Z = true) (cs : Int32) (hCS : Sta Z h0 "java/lang/String" "COMPACT_STRINGS" "Z" (.int cs)) (hcs : ¬ cs = 0) (a v : Addr) (q b : Addr) (ts tb : Nat) (D : String) (mm : List Int32) (ll : List Int32) (hlm : ll.length + mm.length ≤ 17) : Does l Z a0 h0 y_9 jdk_67_method_80_code 2 (some (.object "java/lang/AbstractStringBuilder")) ({ frames := 5, cells := 0, slots := 0, locals := 96 } : Room) #[.ref a, .ref q] [(a, o_SB (.ref v) (.int 0) (.int (Int32.ofNat ll.length))), (v, oBs (own_pad ll)), (q, ro ts (o_String (.ref b) (.int 0))), (b, ro tb (ar D .byte (mm.map own_by)))] (fun r F => r = some (.ref a) ∧ F = [(a, o_SB (.ref v) (.int 0) (.int (Int32.ofNat (ll ++ mm).length))), (v, oBs (own_pad (ll ++ mm))), (q, ro ts (o_String (.ref b) (.int 0))), (b, ro tb (ar D .byte (mm.map own_by)))]) := by
  refine Does.mk #[.val (.ref a), .val (.ref q)] (plainFor_of_name (by decide +kernel)) (fun m => by first | (simp [entryFrame, mkF, argsToLocals, Value.category]; done) | rfl) ?_
  intro p e s m args below meth c h X
  show Goes _ _ _ _ _ _ _ _ _ _ _ _ _ _ _ _ _ _ _ _ [(a, o_SB (.ref v) (.int 0) (.int (Int32.ofNat ll.length))), (v, oBs (own_pad ll)), (q, ro ts (o_String (.ref b) (.int 0))), (b, ro tb (ar D .byte (mm.map own_by)))] 0 0 (mkF m 0 #[.val (.ref a), .val (.ref q)] [])
  refine Goes.runS X [(.aload_n 0, 1), (.aload_n 1, 1)] (S' := [.ref q, .ref a]) (pc' := 2) rfl ?_
  refine Goes.callV X 0 0 [0, 1, 2, 3] [] rfl (D_sap l Z a0 h0 hw cs hCS hcs a v q b ts tb D mm ll hlm) (wd hw 72 rfl) (wd hw 73 rfl) (wd hw 75 rfl) (wd hw 74 rfl) (own_nf X (wd hw 75 rfl)) (wd hw 38 rfl) (wd hw 76 rfl) pd_y_10 rfl (st := []) rfl rfl (G := []) rfl rfl ?_
  rintro _ _ ⟨rfl, rfl⟩
  refine ⟨Or.inr (Or.inl rfl), ?_⟩
  refine Goes.retA X rfl rfl rfl ?_
  exact ⟨rfl, rfl⟩
theorem pf_1 : parseFieldDescriptor "B" = some .byte := by decide +kernel
theorem pf_2 : parseFieldDescriptor "[B" = some (.array .byte) := by decide +kernel
set_option maxRecDepth 65536 in
set_option maxHeartbeats 40000000 in
theorem D_abi (l : Launch) (Z : State) (a0 : Array Value) (h0 : Heap) (hw : ∀ d ∈ tables_1, d.before a0 Z = true) (cs : Int32) (hCS : Sta Z h0 "java/lang/String" "COMPACT_STRINGS" "Z" (.int cs)) (hcs : ¬ cs = 0) (a : Addr) (q b : Addr) (ts tb : Nat) (D : String) (c' : Int32) : Does l Z a0 h0 y_6 jdk_68_method_3_code 5 none ({ frames := 6, cells := 1, slots := 17, locals := 109 } : Room) #[.ref a, .ref q] [(a, o_SB .null (.int 0) (.int 0)), (q, ro ts (o_String (.ref b) (.int 0))), (b, ro tb (ar D .byte ([c'].map own_by)))] (fun r F => ∃ v, r = none ∧ F = [(a, o_SB (.ref v) (.int 0) (.int (Int32.ofNat ([c'] : List Int32).length))), (v, oBs (own_pad [c'])), (q, ro ts (o_String (.ref b) (.int 0))), (b, ro tb (ar D .byte ([c'].map own_by)))]) := by
  refine Does.mk #[.val (.ref a), .val (.ref q), .unset, .unset, .unset] (plainFor_of_name (by decide +kernel)) (fun m => by first | (simp [entryFrame, mkF, argsToLocals, Value.category]; done) | rfl) ?_
  intro p e s m args below meth c h X
  show Goes _ _ _ _ _ _ _ _ _ _ _ _ _ _ _ _ _ _ _ _ [(a, o_SB .null (.int 0) (.int 0)), (q, ro ts (o_String (.ref b) (.int 0))), (b, ro tb (ar D .byte ([c'].map own_by)))] 0 0 (mkF m 0 #[.val (.ref a), .val (.ref q), .unset, .unset, .unset] [])
  refine Goes.runS X [(.aload_n 0, 1)] (S' := [.ref a]) (pc' := 1) rfl ?_
  refine Goes.initO X 0 (wd hw 49 rfl) (wd hw 21 rfl) (wd hw 22 rfl) rfl ?_
  refine Goes.runS X [(.aload_n 1, 1)] (S' := [.ref q]) (pc' := 5) rfl ?_
  refine Goes.callV X 0 1 [1, 2] [0] rfl (D_slen l Z a0 h0 hw cs hCS hcs q b ts tb D [c'] (by simp)) (wd hw 50 rfl) (wd hw 51 rfl) (wd hw 53 rfl) (wd hw 52 rfl) (own_nf X (wd hw 53 rfl)) (wd hw 3 rfl) (wd hw 54 rfl) pd_y_7 rfl (st := []) rfl rfl (G := [(a, o_SB .null (.int 0) (.int 0))]) rfl rfl ?_
  rintro _ _ ⟨rfl, rfl⟩
  refine ⟨Or.inr (Or.inr fun _ q => Or.inr (Or.inr q)), ?_⟩
  show Goes _ _ _ _ _ _ _ _ _ _ _ _ _ _ _ _ _ _ _ _ [(q, ro ts (o_String (.ref b) (.int 0))), (b, ro tb (ar D .byte ([c'].map own_by))), (a, o_SB .null (.int 0) (.int 0))] 0 0 (mkF m 8 #[.val (.ref a), .val (.ref q), .unset, .unset, .unset] [.int (1 : Int32)])
  refine Goes.run X [(.istore_n 2, 1), (.iload_n 2, 1)] (L' := #[.val (.ref a), .val (.ref q), .val (.int (1 : Int32)), .unset, .unset]) (S' := [.int (1 : Int32)]) (pc' := 10) rfl ?_
  refine Goes.ldcI X (wd hw 60 rfl) ?_
  refine Goes.if2 X (pc' := 22) (o := 10) (cd := .ge) (fun q => absurd q (by decide)) (fun _ => ?_)
  refine Goes.runS X [(.iload_n 2, 1), (.bipush 16, 2), (.iadd, 1)] (S' := [.int (17 : Int32)]) (pc' := 19) rfl ?_
  refine Goes.goto X (o := 5) (pc' := 24) ?_
  refine Goes.run X [(.istore_n 3, 1), (.aload_n 1, 1)] (L' := #[.val (.ref a), .val (.ref q), .val (.int (1 : Int32)), .val (.int (17 : Int32)), .unset]) (S' := [.ref q]) (pc' := 26) rfl ?_
  refine Goes.callV X 0 0 [0] [1, 2] rfl (D_scod l Z a0 h0 hw cs hCS hcs q b ts) (wd hw 61 rfl) (wd hw 56 rfl) (wd hw 58 rfl) (wd hw 57 rfl) (own_nf X (wd hw 58 rfl)) (wd hw 3 rfl) (wd hw 59 rfl) pd_y_8 rfl (st := []) rfl rfl (G := [(b, ro tb (ar D .byte ([c'].map own_by))), (a, o_SB .null (.int 0) (.int 0))]) rfl rfl ?_
  rintro _ _ ⟨rfl, rfl⟩
  refine ⟨Or.inr (Or.inr fun _ q => Or.inr (Or.inr q)), ?_⟩
  refine Goes.run X [(.istore 4, 2), (.aload_n 0, 1), (.iload 4, 2)] (L' := #[.val (.ref a), .val (.ref q), .val (.int (1 : Int32)), .val (.int (17 : Int32)), .val (.int (0 : Int32))]) (S' := [.int (0 : Int32), .ref a]) (pc' := 34) rfl ?_
  refine Goes.putF X 2 1 rfl rfl (wd hw 62 rfl) Via.refl (Or.inl (wd hw 63 rfl)) (wd hw 37 rfl) (own_hn rfl rfl nd_SB) (ty := .byte) pf_1 rfl rfl ?_
  refine Goes.runS X [(.aload_n 0, 1), (.iload 4, 2)] (S' := [.int (0 : Int32), .ref a]) (pc' := 40) rfl ?_
  refine Goes.if1 X (pc' := 49) (o := 9) (cd := .ne) (fun q => absurd q (by decide)) (fun _ => ?_)
  refine Goes.runS X [(.iload_n 3, 1)] (S' := [.int (17 : Int32), .ref a]) (pc' := 44) rfl ?_
  show Goes _ _ _ _ _ _ _ _ _ _ _ _ _ _ _ _ _ _ _ _ [(q, ro ts (o_String (.ref b) (.int 0))), (b, ro tb (ar D .byte ([c'].map own_by))), (a, o_SB .null (.int (0 : Int32)) (.int 0))] 0 0 (mkF m 44 #[.val (.ref a), .val (.ref q), .val (.int (1 : Int32)), .val (.int (17 : Int32)), .val (.int (0 : Int32))] [.int (17 : Int32), .ref a])
  refine Goes.newarr X (aty := .byte) "[B" 17 17 (wd hw 15 rfl) (by decide +kernel) (by decide) (by decide) (fun v1 => ?_)
  show Goes _ _ _ _ _ _ _ _ _ _ _ _ _ _ _ _ _ _ _ _ [(q, ro ts (o_String (.ref b) (.int 0))), (b, ro tb (ar D .byte ([c'].map own_by))), (a, o_SB .null (.int (0 : Int32)) (.int 0)), (v1, oBs (own_pad []))] 1 17 (mkF m 46 #[.val (.ref a), .val (.ref q), .val (.int (1 : Int32)), .val (.int (17 : Int32)), .val (.int (0 : Int32))] [.ref v1, .ref a])
  refine Goes.goto X (o := 7) (pc' := 53) ?_
  refine Goes.putF X 2 0 rfl rfl (wd hw 64 rfl) Via.refl (Or.inl (wd hw 65 rfl)) (wd hw 37 rfl) (own_hn rfl rfl nd_SB) (ty := (.array .byte)) pf_2 rfl rfl ?_
  refine Goes.runS X [(.aload_n 0, 1), (.aload_n 1, 1)] (S' := [.ref q, .ref a]) (pc' := 58) rfl ?_
  have hlm : ([] : List Int32).length + [c'].length ≤ 17 := by simp
  refine Goes.sub [2, 3, 0, 1] (G := [(a, o_SB (.ref v1) (.int 0) (.int (Int32.ofNat ([] : List Int32).length))), (v1, oBs (own_pad [])), (q, ro ts (o_String (.ref b) (.int 0))), (b, ro tb (ar D .byte ([c'].map own_by)))]) rfl ?_
  refine Goes.callV X 0 0 [0, 1, 2, 3] [] rfl (D_brg l Z a0 h0 hw cs hCS hcs a v1 q b ts tb D [c'] [] hlm) (wd hw 66 rfl) (wd hw 67 rfl) (wd hw 69 rfl) (wd hw 70 rfl) (own_nf2 X (wd hw 85 rfl) rfl) (wd hw 38 rfl) (wd hw 71 rfl) pd_y_11 rfl (st := []) rfl rfl (G := []) rfl rfl ?_
  rintro _ _ ⟨rfl, rfl⟩
  refine ⟨Or.inr (Or.inl rfl), ?_⟩
  refine Goes.runS X [(.pop, 1)] (S' := []) (pc' := 62) rfl ?_
  refine Goes.retV X ?_
  exact ⟨v1, rfl, rfl⟩
set_option maxRecDepth 65536 in
set_option maxHeartbeats 40000000 in
theorem D_sbi (l : Launch) (Z : State) (a0 : Array Value) (h0 : Heap) (hw : ∀ d ∈ tables_1, d.before a0 Z = true) (cs : Int32) (hCS : Sta Z h0 "java/lang/String" "COMPACT_STRINGS" "Z" (.int cs)) (hcs : ¬ cs = 0) (a : Addr) (q b : Addr) (ts tb : Nat) (D : String) (c' : Int32) : Does l Z a0 h0 y_5 jdk_67_method_3_code 2 none ({ frames := 7, cells := 1, slots := 17, locals := 125 } : Room) #[.ref a, .ref q] [(a, o_SB .null (.int 0) (.int 0)), (q, ro ts (o_String (.ref b) (.int 0))), (b, ro tb (ar D .byte ([c'].map own_by)))] (fun r F => ∃ v, r = none ∧ F = [(a, o_SB (.ref v) (.int 0) (.int (Int32.ofNat ([c'] : List Int32).length))), (v, oBs (own_pad [c'])), (q, ro ts (o_String (.ref b) (.int 0))), (b, ro tb (ar D .byte ([c'].map own_by)))]) := by
  refine Does.mk #[.val (.ref a), .val (.ref q)] (plainFor_of_name (by decide +kernel)) (fun m => by first | (simp [entryFrame, mkF, argsToLocals, Value.category]; done) | rfl) ?_
  intro p e s m args below meth c h X
  show Goes _ _ _ _ _ _ _ _ _ _ _ _ _ _ _ _ _ _ _ _ [(a, o_SB .null (.int 0) (.int 0)), (q, ro ts (o_String (.ref b) (.int 0))), (b, ro tb (ar D .byte ([c'].map own_by)))] 0 0 (mkF m 0 #[.val (.ref a), .val (.ref q)] [])
  refine Goes.runS X [(.aload_n 0, 1), (.aload_n 1, 1)] (S' := [.ref q, .ref a]) (pc' := 2) rfl ?_
  refine Goes.callN X 0 [0, 1, 2] [] (D_abi l Z a0 h0 hw cs hCS hcs a q b ts tb D c') rfl (wd hw 43 rfl) (wd hw 44 rfl) (wd hw 47 rfl) (wd hw 48 rfl) pd_y_6 rfl (st := []) rfl rfl (G := []) rfl rfl ?_
  rintro _ _ ⟨v2, rfl, rfl⟩
  refine ⟨Or.inr (Or.inl rfl), ?_⟩
  refine Goes.retV X ?_
  exact ⟨v2, rfl, rfl⟩
set_option maxRecDepth 65536 in
set_option maxHeartbeats 40000000 in
theorem D_isl (l : Launch) (Z : State) (a0 : Array Value) (h0 : Heap) (hw : ∀ d ∈ tables_1, d.before a0 Z = true) (cs : Int32) (hCS : Sta Z h0 "java/lang/String" "COMPACT_STRINGS" "Z" (.int cs)) (hcs : ¬ cs = 0) (a v : Addr) (k : Nat) : Does l Z a0 h0 y_18 jdk_68_method_68_code 1 (some .boolean) ({ frames := 0, cells := 0, slots := 0, locals := 0 } : Room) #[.ref a] [(a, o_SB (.ref v) (.int 0) (.int (Int32.ofNat k)))] (fun r F => r = some (.int 1) ∧ F = [(a, o_SB (.ref v) (.int 0) (.int (Int32.ofNat k)))]) := by
  refine Does.mk #[.val (.ref a)] (plainFor_of_name (by decide +kernel)) (fun m => by first | (simp [entryFrame, mkF, argsToLocals, Value.category]; done) | rfl) ?_
  intro p e s m args below meth c h X
  show Goes _ _ _ _ _ _ _ _ _ _ _ _ _ _ _ _ _ _ _ _ [(a, o_SB (.ref v) (.int 0) (.int (Int32.ofNat k)))] 0 0 (mkF m 0 #[.val (.ref a)] [])
  refine Goes.getS X (wd hw 97 rfl) Via.refl hCS ?_
  refine Goes.if1 X (pc' := 17) (o := 14) (cd := .eq) (fun q => absurd (q.symm.trans (by simpa [ifCond.holds] using hcs : ifCond.holds .eq cs = false)) (by decide)) (fun _ => ?_)
  refine Goes.runS X [(.aload_n 0, 1)] (S' := [.ref a]) (pc' := 7) rfl ?_
  refine Goes.getF X 0 1 rfl rfl (wd hw 62 rfl) Via.refl ?_
  refine Goes.if1 X (pc' := 17) (o := 7) (cd := .ne) (fun q => absurd q (by decide)) (fun _ => ?_)
  refine Goes.runS X [(.iconst 1, 1)] (S' := [.int (1 : Int32)]) (pc' := 14) rfl ?_
  refine Goes.goto X (o := 4) (pc' := 18) ?_
  refine Goes.retI X (by simp) rfl ?_
  exact ⟨rfl, rfl⟩
set_option maxRecDepth 65536 in
set_option maxHeartbeats 40000000 in
theorem D_can (l : Launch) (Z : State) (a0 : Array Value) (h0 : Heap) (hw : ∀ d ∈ tables_1, d.before a0 Z = true) (c' : Int32) (hc : c' ≤ 255) : Does l Z a0 h0 y_1 jdk_43_method_3_code 1 (some .boolean) ({ frames := 0, cells := 0, slots := 0, locals := 0 } : Room) #[.int c'] [] (fun r F => r = some (.int 1) ∧ F = []) := by
  refine Does.mk #[.val (.int c')] (plainFor_of_name (by decide +kernel)) (fun m => by first | (simp [entryFrame, mkF, argsToLocals, Value.category]; done) | rfl) ?_
  intro p e s m args below meth c h X
  show Goes _ _ _ _ _ _ _ _ _ _ _ _ _ _ _ _ _ _ _ _ [] 0 0 (mkF m 0 #[.val (.int c')] [])
  refine Goes.runS X [(.iload_n 0, 1), (.sipush 255, 3)] (S' := [.int (255 : Int32), .int c']) (pc' := 4) rfl ?_
  refine Goes.if2 X (pc' := 11) (o := 7) (cd := .gt) (fun q => absurd (q.symm.trans (by simpa [if_icmp.holds] using hc : if_icmp.holds .gt c' (255 : Int32) = false)) (by decide)) (fun _ => ?_)
  refine Goes.runS X [(.iconst 1, 1)] (S' := [.int (1 : Int32)]) (pc' := 8) rfl ?_
  refine Goes.goto X (o := 4) (pc' := 12) ?_
  refine Goes.retI X (by simp) rfl ?_
  exact ⟨rfl, rfl⟩
theorem own_apc (ll : List Int32) (c : Int32) : Int32.ofNat ll.length + 1 = Int32.ofNat (ll ++ [c]).length := by rw [List.length_append]; exact own_add ll.length 1
set_option maxRecDepth 65536 in
set_option maxHeartbeats 40000000 in
theorem D_acc (l : Launch) (Z : State) (a0 : Array Value) (h0 : Heap) (hw : ∀ d ∈ tables_1, d.before a0 Z = true) (cs : Int32) (hCS : Sta Z h0 "java/lang/String" "COMPACT_STRINGS" "Z" (.int cs)) (hcs : ¬ cs = 0) (a v : Addr) (ll : List Int32) (hl : ll.length < 17) (c' : Int32) (hc : c' ≤ 255) : Does l Z a0 h0 y_17 jdk_68_method_31_code 2 (some (.object "java/lang/AbstractStringBuilder")) ({ frames := 1, cells := 0, slots := 0, locals := 14 } : Room) #[.ref a, .int c'] [(a, o_SB (.ref v) (.int 0) (.int (Int32.ofNat ll.length))), (v, oBs (own_pad ll))] (fun r F => r = some (.ref a) ∧ F = [(a, o_SB (.ref v) (.int 0) (.int (Int32.ofNat (ll ++ [c']).length))), (v, oBs (own_pad (ll ++ [c'])))]) := by
  refine Does.mk #[.val (.ref a), .val (.int c')] (plainFor_of_name (by decide +kernel)) (fun m => by first | (simp [entryFrame, mkF, argsToLocals, Value.category]; done) | rfl) ?_
  intro p e s m args below meth c h X
  show Goes _ _ _ _ _ _ _ _ _ _ _ _ _ _ _ _ _ _ _ _ [(a, o_SB (.ref v) (.int 0) (.int (Int32.ofNat ll.length))), (v, oBs (own_pad ll))] 0 0 (mkF m 0 #[.val (.ref a), .val (.int c')] [])
  refine Goes.runS X [(.aload_n 0, 1), (.aload_n 0, 1)] (S' := [.ref a, .ref a]) (pc' := 2) rfl ?_
  refine Goes.getF X 0 2 rfl rfl (wd hw 80 rfl) Via.refl ?_
  refine Goes.runS X [(.iconst 1, 1), (.iadd, 1)] (S' := [.int ((Int32.ofNat ll.length) + (1 : Int32)), .ref a]) (pc' := 7) rfl ?_
  rw [(own_jn ll.length (by omega)).2.2.1]
  show Goes _ _ _ _ _ _ _ _ _ _ _ _ _ _ _ _ _ _ _ _ [(a, o_SB (.ref v) (.int 0) (.int (Int32.ofNat ll.length))), (v, oBs (own_pad ll))] 0 0 (mkF m 7 #[.val (.ref a), .val (.int c')] [.int (Int32.ofNat (ll.length + 1)), .ref a])
  refine Goes.callP X 0 0 [0, 1] [] rfl (D_ens l Z a0 h0 hw a v ll (by omega) ll.length (ll.length + 1) hl) (wd hw 82 rfl) (wd hw 83 rfl) (wd hw 84 rfl) (own_nf X (wd hw 85 rfl)) (wd hw 47 rfl) (wd hw 86 rfl) pd_y_12 rfl (st := []) rfl rfl (G := []) rfl rfl ?_
  rintro _ _ ⟨rfl, rfl⟩
  refine ⟨Or.inr (Or.inr fun _ q => Or.inr (Or.inr q)), ?_⟩
  refine Goes.runS X [(.aload_n 0, 1)] (S' := [.ref a]) (pc' := 11) rfl ?_
  refine Goes.callV X 0 0 [0] [1] rfl (D_isl l Z a0 h0 hw cs hCS hcs a v ll.length) (wd hw 116 rfl) (wd hw 117 rfl) (wd hw 119 rfl) (wd hw 118 rfl) (own_nf X (wd hw 119 rfl)) (wd hw 47 rfl) (wd hw 120 rfl) pd_y_18 rfl (st := []) rfl rfl (G := [(v, oBs (own_pad ll))]) rfl rfl ?_
  rintro _ _ ⟨rfl, rfl⟩
  refine ⟨Or.inr (Or.inr fun _ q => Or.inr (Or.inr q)), ?_⟩
  refine Goes.if1 X (pc' := 45) (o := 31) (cd := .eq) (fun q => absurd q (by decide)) (fun _ => ?_)
  refine Goes.runS X [(.iload_n 1, 1)] (S' := [.int c']) (pc' := 18) rfl ?_
  refine Goes.callS X 0 [] [0, 1] (D_can l Z a0 h0 hw c' hc) (wd hw 121 rfl) (wd hw 7 rfl) (wd hw 8 rfl) (wd hw 9 rfl) pd_y_1 rfl (st := []) rfl rfl (G := [(a, o_SB (.ref v) (.int 0) (.int (Int32.ofNat ll.length))), (v, oBs (own_pad ll))]) rfl rfl ?_
  rintro _ _ ⟨rfl, rfl⟩
  refine ⟨Or.inr (Or.inr fun _ q => Or.inr (Or.inr q)), ?_⟩
  refine Goes.if1 X (pc' := 45) (o := 24) (cd := .eq) (fun q => absurd q (by decide)) (fun _ => ?_)
  refine Goes.runS X [(.aload_n 0, 1)] (S' := [.ref a]) (pc' := 25) rfl ?_
  refine Goes.getF X 0 0 rfl rfl (wd hw 64 rfl) Via.refl ?_
  refine Goes.runS X [(.aload_n 0, 1), (.dup, 1)] (S' := [.ref a, .ref a, .ref v]) (pc' := 30) rfl ?_
  refine Goes.getF X 0 2 rfl rfl (wd hw 80 rfl) Via.refl ?_
  refine Goes.runS X [(.dup_x1, 1), (.iconst 1, 1), (.iadd, 1)] (S' := [.int ((Int32.ofNat ll.length) + (1 : Int32)), .ref a, .int (Int32.ofNat ll.length), .ref v]) (pc' := 36) rfl ?_
  rw [own_apc ll c']
  show Goes _ _ _ _ _ _ _ _ _ _ _ _ _ _ _ _ _ _ _ _ [(a, o_SB (.ref v) (.int 0) (.int (Int32.ofNat ll.length))), (v, oBs (own_pad ll))] 0 0 (mkF m 36 #[.val (.ref a), .val (.int c')] [.int (Int32.ofNat (ll ++ [c']).length), .ref a, .int (Int32.ofNat ll.length), .ref v])
  refine Goes.putF X 0 2 rfl rfl (wd hw 80 rfl) Via.refl (Or.inl (wd hw 81 rfl)) (wd hw 37 rfl) (own_hn rfl rfl nd_SB) (ty := .int) pf_0 rfl rfl ?_
  refine Goes.runS X [(.iload_n 1, 1), (.i2b, 1)] (S' := [.int (oI2b c'), .int (Int32.ofNat ll.length), .ref v]) (pc' := 41) rfl ?_
  refine Goes.bastore X 1 ll.length rfl (own_jn ll.length (by omega)).1 (own_jn ll.length (by omega)).2.1 (by rw [own_pad_len ll (by omega)]; exact hl) ?_
  show Goes _ _ _ _ _ _ _ _ _ _ _ _ _ _ _ _ _ _ _ _ [(a, o_SB (.ref v) (.int 0) (.int (Int32.ofNat (ll ++ [c']).length))), (v, oBs ((own_pad ll).set ll.length (.int (nar .byte (oI2b c')))))] 0 0 (mkF m 42 #[.val (.ref a), .val (.int c')] [])
  rw [own_nb, own_pad_set ll c' hl]
  show Goes _ _ _ _ _ _ _ _ _ _ _ _ _ _ _ _ _ _ _ _ [(a, o_SB (.ref v) (.int 0) (.int (Int32.ofNat (ll ++ [c']).length))), (v, oBs (own_pad (ll ++ [c'])))] 0 0 (mkF m 42 #[.val (.ref a), .val (.int c')] [])
  refine Goes.goto X (o := 33) (pc' := 75) ?_
  refine Goes.runS X [(.aload_n 0, 1)] (S' := [.ref a]) (pc' := 76) rfl ?_
  refine Goes.sub [0, 1] (G := [(a, o_SB (.ref v) (.int 0) (.int (Int32.ofNat (ll ++ [c']).length))), (v, oBs (own_pad (ll ++ [c'])))]) rfl ?_
  refine Goes.retA X rfl rfl rfl ?_
  exact ⟨rfl, rfl⟩
set_option maxRecDepth 65536 in
set_option maxHeartbeats 40000000 in
theorem D_scc (l : Launch) (Z : State) (a0 : Array Value) (h0 : Heap) (hw : ∀ d ∈ tables_1, d.before a0 Z = true) (cs : Int32) (hCS : Sta Z h0 "java/lang/String" "COMPACT_STRINGS" "Z" (.int cs)) (hcs : ¬ cs = 0) (a v : Addr) (ll : List Int32) (hl : ll.length < 17) (c' : Int32) (hc : c' ≤ 255) : Does l Z a0 h0 y_16 jdk_67_method_14_code 2 (some (.object "java/lang/StringBuilder")) ({ frames := 2, cells := 0, slots := 0, locals := 27 } : Room) #[.ref a, .int c'] [(a, o_SB (.ref v) (.int 0) (.int (Int32.ofNat ll.length))), (v, oBs (own_pad ll))] (fun r F => r = some (.ref a) ∧ F = [(a, o_SB (.ref v) (.int 0) (.int (Int32.ofNat (ll ++ [c']).length))), (v, oBs (own_pad (ll ++ [c'])))]) := by
  refine Does.mk #[.val (.ref a), .val (.int c')] (plainFor_of_name (by decide +kernel)) (fun m => by first | (simp [entryFrame, mkF, argsToLocals, Value.category]; done) | rfl) ?_
  intro p e s m args below meth c h X
  show Goes _ _ _ _ _ _ _ _ _ _ _ _ _ _ _ _ _ _ _ _ [(a, o_SB (.ref v) (.int 0) (.int (Int32.ofNat ll.length))), (v, oBs (own_pad ll))] 0 0 (mkF m 0 #[.val (.ref a), .val (.int c')] [])
  refine Goes.runS X [(.aload_n 0, 1), (.iload_n 1, 1)] (S' := [.int c', .ref a]) (pc' := 2) rfl ?_
  refine Goes.callU X 0 0 [0, 1] [] rfl (D_acc l Z a0 h0 hw cs hCS hcs a v ll hl c' hc) (wd hw 112 rfl) (wd hw 113 rfl) (wd hw 78 rfl) (own_same (wd hw 85 rfl) rfl (wd hw 113 rfl) (by decide)) (by decide) (wd hw 47 rfl) (wd hw 115 rfl) pd_y_17 rfl (st := []) rfl rfl (G := []) rfl rfl ?_
  rintro _ _ ⟨rfl, rfl⟩
  refine ⟨Or.inl rfl, ?_⟩
  refine Goes.runS X [(.pop, 1), (.aload_n 0, 1)] (S' := [.ref a]) (pc' := 7) rfl ?_
  refine Goes.retA X rfl rfl rfl ?_
  exact ⟨rfl, rfl⟩
set_option maxRecDepth 65536 in
set_option maxHeartbeats 40000000 in
theorem D_abl (l : Launch) (Z : State) (a0 : Array Value) (h0 : Heap) (hw : ∀ d ∈ tables_1, d.before a0 Z = true) (a v : Addr) (k : Nat) : Does l Z a0 h0 y_24 jdk_68_method_6_code 1 (some .int) ({ frames := 0, cells := 0, slots := 0, locals := 0 } : Room) #[.ref a] [(a, o_SB (.ref v) (.int 0) (.int (Int32.ofNat k)))] (fun r F => r = some (.int (Int32.ofNat k)) ∧ F = [(a, o_SB (.ref v) (.int 0) (.int (Int32.ofNat k)))]) := by
  refine Does.mk #[.val (.ref a)] (plainFor_of_name (by decide +kernel)) (fun m => by first | (simp [entryFrame, mkF, argsToLocals, Value.category]; done) | rfl) ?_
  intro p e s m args below meth c h X
  show Goes _ _ _ _ _ _ _ _ _ _ _ _ _ _ _ _ _ _ _ _ [(a, o_SB (.ref v) (.int 0) (.int (Int32.ofNat k)))] 0 0 (mkF m 0 #[.val (.ref a)] [])
  refine Goes.runS X [(.aload_n 0, 1)] (S' := [.ref a]) (pc' := 1) rfl ?_
  refine Goes.getF X 0 2 rfl rfl (wd hw 80 rfl) Via.refl ?_
  refine Goes.retI X (by simp) rfl ?_
  exact ⟨rfl, rfl⟩
set_option maxRecDepth 65536 in
set_option maxHeartbeats 40000000 in
theorem D_sbl (l : Launch) (Z : State) (a0 : Array Value) (h0 : Heap) (hw : ∀ d ∈ tables_1, d.before a0 Z = true) (a v : Addr) (k : Nat) : Does l Z a0 h0 y_23 jdk_67_method_93_code 1 (some .int) ({ frames := 1, cells := 0, slots := 0, locals := 12 } : Room) #[.ref a] [(a, o_SB (.ref v) (.int 0) (.int (Int32.ofNat k)))] (fun r F => r = some (.int (Int32.ofNat k)) ∧ F = [(a, o_SB (.ref v) (.int 0) (.int (Int32.ofNat k)))]) := by
  refine Does.mk #[.val (.ref a)] (plainFor_of_name (by decide +kernel)) (fun m => by first | (simp [entryFrame, mkF, argsToLocals, Value.category]; done) | rfl) ?_
  intro p e s m args below meth c h X
  show Goes _ _ _ _ _ _ _ _ _ _ _ _ _ _ _ _ _ _ _ _ [(a, o_SB (.ref v) (.int 0) (.int (Int32.ofNat k)))] 0 0 (mkF m 0 #[.val (.ref a)] [])
  refine Goes.runS X [(.aload_n 0, 1)] (S' := [.ref a]) (pc' := 1) rfl ?_
  refine Goes.callU X 0 0 [0] [] rfl (D_abl l Z a0 h0 hw a v k) (wd hw 145 rfl) (wd hw 141 rfl) (wd hw 78 rfl) (own_same (wd hw 85 rfl) rfl (wd hw 141 rfl) (by decide)) (by decide) (wd hw 47 rfl) (wd hw 146 rfl) pd_y_24 rfl (st := []) rfl rfl (G := []) rfl rfl ?_
  rintro _ _ ⟨rfl, rfl⟩
  refine ⟨Or.inr (Or.inr fun _ q => Or.inr (Or.inr q)), ?_⟩
  refine Goes.retI X (by simp) rfl ?_
  exact ⟨rfl, rfl⟩
set_option maxRecDepth 65536 in
set_option maxHeartbeats 40000000 in
theorem D_gv (l : Launch) (Z : State) (a0 : Array Value) (h0 : Heap) (hw : ∀ d ∈ tables_1, d.before a0 Z = true) (a v : Addr) (k : Nat) : Does l Z a0 h0 y_22 jdk_68_method_64_code 1 (some (.array .byte)) ({ frames := 0, cells := 0, slots := 0, locals := 0 } : Room) #[.ref a] [(a, o_SB (.ref v) (.int 0) (.int (Int32.ofNat k)))] (fun r F => r = some (.ref v) ∧ F = [(a, o_SB (.ref v) (.int 0) (.int (Int32.ofNat k)))]) := by
  refine Does.mk #[.val (.ref a)] (plainFor_of_name (by decide +kernel)) (fun m => by first | (simp [entryFrame, mkF, argsToLocals, Value.category]; done) | rfl) ?_
  intro p e s m args below meth c h X
  show Goes _ _ _ _ _ _ _ _ _ _ _ _ _ _ _ _ _ _ _ _ [(a, o_SB (.ref v) (.int 0) (.int (Int32.ofNat k)))] 0 0 (mkF m 0 #[.val (.ref a)] [])
  refine Goes.runS X [(.aload_n 0, 1)] (S' := [.ref a]) (pc' := 1) rfl ?_
  refine Goes.getF X 0 0 rfl rfl (wd hw 64 rfl) Via.refl ?_
  refine Goes.retA X rfl rfl rfl ?_
  exact ⟨rfl, rfl⟩
set_option maxRecDepth 65536 in
set_option maxHeartbeats 40000000 in
theorem D_ckl (l : Launch) (Z : State) (a0 : Array Value) (h0 : Heap) (hw : ∀ d ∈ tables_1, d.before a0 Z = true) (k : Nat) (hk : k ≤ 17) : Does l Z a0 h0 y_27 jdk_65_method_131_code 2 none ({ frames := 0, cells := 0, slots := 0, locals := 0 } : Room) #[.int 0, .int (Int32.ofNat k)] [] (fun r F => r = none ∧ F = []) := by
  refine Does.mk #[.val (.int 0), .val (.int (Int32.ofNat k))] (plainFor_of_name (by decide +kernel)) (fun m => by first | (simp [entryFrame, mkF, argsToLocals, Value.category]; done) | rfl) ?_
  intro p e s m args below meth c h X
  show Goes _ _ _ _ _ _ _ _ _ _ _ _ _ _ _ _ _ _ _ _ [] 0 0 (mkF m 0 #[.val (.int 0), .val (.int (Int32.ofNat k))] [])
  refine Goes.runS X [(.iload_n 1, 1), (.iload_n 0, 1)] (S' := [.int 0, .int (Int32.ofNat k)]) (pc' := 2) rfl ?_
  refine Goes.if2 X (pc' := 37) (o := 35) (cd := .ge) (fun _ => ?_) (fun q => absurd (q.symm.trans (own_m17 k hk).1) (by decide))
  refine Goes.retV X ?_
  exact ⟨rfl, rfl⟩
set_option maxRecDepth 65536 in
set_option maxHeartbeats 40000000 in
theorem D_mn (l : Launch) (Z : State) (a0 : Array Value) (h0 : Heap) (hw : ∀ d ∈ tables_1, d.before a0 Z = true) (k : Nat) (hk : k < 17) : Does l Z a0 h0 y_28 jdk_29_method_69_code 2 (some .int) ({ frames := 0, cells := 0, slots := 0, locals := 0 } : Room) #[.int (17 : Int32), .int (Int32.ofNat k)] [] (fun r F => r = some (.int (Int32.ofNat k)) ∧ F = []) := by
  refine Does.mk #[.val (.int (17 : Int32)), .val (.int (Int32.ofNat k))] (Jvm.Free.JP.mathPlain rfl (by decide +kernel)) (fun m => by first | (simp [entryFrame, mkF, argsToLocals, Value.category]; done) | rfl) ?_
  intro p e s m args below meth c h X
  show Goes _ _ _ _ _ _ _ _ _ _ _ _ _ _ _ _ _ _ _ _ [] 0 0 (mkF m 0 #[.val (.int (17 : Int32)), .val (.int (Int32.ofNat k))] [])
  refine Goes.runS X [(.iload_n 0, 1), (.iload_n 1, 1)] (S' := [.int (Int32.ofNat k), .int (17 : Int32)]) (pc' := 2) rfl ?_
  refine Goes.if2 X (pc' := 9) (o := 7) (cd := .gt) (fun _ => ?_) (fun q => absurd (q.symm.trans (by rw [(own_m17 k (by omega)).2]; simp [hk] : if_icmp.holds .gt (17 : Int32) (Int32.ofNat k) = true)) (by decide))
  refine Goes.runS X [(.iload_n 1, 1)] (S' := [.int (Int32.ofNat k)]) (pc' := 10) rfl ?_
  refine Goes.retI X (by simp) rfl ?_
  exact ⟨rfl, rfl⟩
theorem own_rep (ll : List Int32) (h : ll.length ≤ 17) : (List.replicate ll.length (Value.int 0)).take 0 ++ ll.map own_by ++ (List.replicate ll.length (Value.int 0)).drop (0 + ll.length) = ll.map own_by := by simp
set_option maxRecDepth 65536 in
set_option maxHeartbeats 40000000 in
theorem D_crb (l : Launch) (Z : State) (a0 : Array Value) (h0 : Heap) (hw : ∀ d ∈ tables_1, d.before a0 Z = true) (v : Addr) (ll : List Int32) (hl : ll.length < 17) : Does l Z a0 h0 y_26 jdk_65_method_133_code 5 (some (.array .byte)) ({ frames := 1, cells := 1, slots := 17, locals := 40 } : Room) #[.ref v, .int 0, .int (Int32.ofNat ll.length)] [(v, oBs (own_pad ll))] (fun r F => ∃ t, r = some (.ref t) ∧ F = [(v, oBs (own_pad ll)), (t, oBs (ll.map own_by))]) := by
  refine Does.mk #[.val (.ref v), .val (.int 0), .val (.int (Int32.ofNat ll.length)), .unset, .unset] (plainFor_of_name (by decide +kernel)) (fun m => by first | (simp [entryFrame, mkF, argsToLocals, Value.category]; done) | rfl) ?_
  intro p e s m args below meth c h X
  show Goes _ _ _ _ _ _ _ _ _ _ _ _ _ _ _ _ _ _ _ _ [(v, oBs (own_pad ll))] 0 0 (mkF m 0 #[.val (.ref v), .val (.int 0), .val (.int (Int32.ofNat ll.length)), .unset, .unset] [])
  have hj := own_jn ll.length (by omega)
  refine Goes.runS X [(.iload_n 1, 1), (.iload_n 2, 1)] (S' := [.int (Int32.ofNat ll.length), .int 0]) (pc' := 2) rfl ?_
  refine Goes.callS X 0 [] [0] (D_ckl l Z a0 h0 hw ll.length (by omega)) (wd hw 155 rfl) (wd hw 156 rfl) (wd hw 150 rfl) (wd hw 157 rfl) pd_y_27 rfl (st := []) rfl rfl (G := [(v, oBs (own_pad ll))]) rfl rfl ?_
  rintro _ _ ⟨rfl, rfl⟩
  refine ⟨Or.inr (Or.inr fun _ q => Or.inr (Or.inr q)), ?_⟩
  refine Goes.runS X [(.iload_n 2, 1), (.iload_n 1, 1), (.isub, 1)] (S' := [.int ((Int32.ofNat ll.length) - 0)]) (pc' := 8) rfl ?_
  rw [hj.2.2.2.2.2]
  show Goes _ _ _ _ _ _ _ _ _ _ _ _ _ _ _ _ _ _ _ _ [(v, oBs (own_pad ll))] 0 0 (mkF m 8 #[.val (.ref v), .val (.int 0), .val (.int (Int32.ofNat ll.length)), .unset, .unset] [.int (Int32.ofNat ll.length)])
  refine Goes.run X [(.istore_n 3, 1), (.iload_n 3, 1)] (L' := #[.val (.ref v), .val (.int 0), .val (.int (Int32.ofNat ll.length)), .val (.int (Int32.ofNat ll.length)), .unset]) (S' := [.int (Int32.ofNat ll.length)]) (pc' := 10) rfl ?_
  refine Goes.newarr X (aty := .byte) "[B" ll.length 17 (wd hw 15 rfl) (by decide +kernel) hj.2.1 hj.1 (fun t3 => ?_) (hcap := by omega)
  show Goes _ _ _ _ _ _ _ _ _ _ _ _ _ _ _ _ _ _ _ _ [(v, oBs (own_pad ll)), (t3, oBs (List.replicate ll.length (.int 0)))] 1 17 (mkF m 12 #[.val (.ref v), .val (.int 0), .val (.int (Int32.ofNat ll.length)), .val (.int (Int32.ofNat ll.length)), .unset] [.ref t3])
  refine Goes.run X [(.astore 4, 2), (.aload_n 0, 1), (.iload_n 1, 1), (.aload 4, 2), (.iconst 0, 1), (.aload_n 0, 1)] (L' := #[.val (.ref v), .val (.int 0), .val (.int (Int32.ofNat ll.length)), .val (.int (Int32.ofNat ll.length)), .val (.ref t3)]) (S' := [.ref v, .int (0 : Int32), .ref t3, .int 0, .ref v]) (pc' := 20) rfl ?_
  refine Goes.alen X 0 (n := 17) rfl (own_len17 ll (by omega)) ?_
  show Goes _ _ _ _ _ _ _ _ _ _ _ _ _ _ _ _ _ _ _ _ [(v, oBs (own_pad ll)), (t3, oBs (List.replicate ll.length (.int 0)))] 1 17 (mkF m 21 #[.val (.ref v), .val (.int 0), .val (.int (Int32.ofNat ll.length)), .val (.int (Int32.ofNat ll.length)), .val (.ref t3)] [.int (17 : Int32), .int (0 : Int32), .ref t3, .int 0, .ref v])
  refine Goes.runS X [(.iload_n 1, 1), (.isub, 1), (.iload_n 3, 1)] (S' := [.int (Int32.ofNat ll.length), .int (17 : Int32), .int (0 : Int32), .ref t3, .int 0, .ref v]) (pc' := 24) rfl ?_
  refine Goes.callS X 4 [] [0, 1] (D_mn l Z a0 h0 hw ll.length hl) (wd hw 158 rfl) (wd hw 159 rfl) (wd hw 160 rfl) (wd hw 161 rfl) pd_y_28 rfl (st := [.int (0 : Int32), .ref t3, .int 0, .ref v]) rfl rfl (G := [(v, oBs (own_pad ll)), (t3, oBs (List.replicate ll.length (.int 0)))]) rfl rfl ?_
  rintro _ _ ⟨rfl, rfl⟩
  refine ⟨Or.inr (Or.inr fun _ q => Or.inr (Or.inr q)), ?_⟩
  refine Goes.acopy X 0 0 1 (ll.map own_by) 0 0 ll.length (wd hw 162 rfl) (wd hw 106 rfl) (wd hw 104 rfl) (wd hw 105 rfl) rfl rfl (by decide) (by decide) hj.2.1 rfl rfl hj.1 (by rw [own_pad_len ll (by omega)]; omega) (by simp) (by have q := own_us ll ll.length (Nat.le_refl _) (List.replicate (17 - ll.length) (.int 0)); rw [List.take_length] at q; exact q.symm) rfl ?_
  show Goes _ _ _ _ _ _ _ _ _ _ _ _ _ _ _ _ _ _ _ _ [(v, oBs (own_pad ll)), (t3, oBs ((List.replicate ll.length (.int 0)).take 0 ++ ll.map own_by ++ (List.replicate ll.length (.int 0)).drop (0 + ll.length)))] 1 17 (mkF m 30 #[.val (.ref v), .val (.int 0), .val (.int (Int32.ofNat ll.length)), .val (.int (Int32.ofNat ll.length)), .val (.ref t3)] [])
  rw [own_rep ll (by omega)]
  show Goes _ _ _ _ _ _ _ _ _ _ _ _ _ _ _ _ _ _ _ _ [(v, oBs (own_pad ll)), (t3, oBs (ll.map own_by))] 1 17 (mkF m 30 #[.val (.ref v), .val (.int 0), .val (.int (Int32.ofNat ll.length)), .val (.int (Int32.ofNat ll.length)), .val (.ref t3)] [])
  refine Goes.runS X [(.aload 4, 2)] (S' := [.ref t3]) (pc' := 32) rfl ?_
  refine Goes.retA X rfl rfl rfl ?_
  exact ⟨t3, rfl, rfl⟩
theorem own_pad17 (ll : List Int32) (h : ll.length = 17) : own_pad ll = ll.map own_by := by unfold own_pad; rw [h]; first | exact List.append_nil _ | simp
set_option maxRecDepth 65536 in
set_option maxHeartbeats 40000000 in
theorem D_cor (l : Launch) (Z : State) (a0 : Array Value) (h0 : Heap) (hw : ∀ d ∈ tables_1, d.before a0 Z = true) (v : Addr) (ll : List Int32) (hl : ll.length ≤ 17) : Does l Z a0 h0 y_25 jdk_65_method_132_code 3 (some (.array .byte)) ({ frames := 2, cells := 1, slots := 17, locals := 56 } : Room) #[.ref v, .int 0, .int (Int32.ofNat ll.length)] [(v, oBs (own_pad ll))] (fun r F => ∃ t, r = some (.ref t) ∧ F = [(v, oBs (own_pad ll)), (t, oBs (ll.map own_by))]) := by
  refine Does.mk #[.val (.ref v), .val (.int 0), .val (.int (Int32.ofNat ll.length))] (plainFor_of_name (by decide +kernel)) (fun m => by first | (simp [entryFrame, mkF, argsToLocals, Value.category]; done) | rfl) ?_
  intro p e s m args below meth c h X
  show Goes _ _ _ _ _ _ _ _ _ _ _ _ _ _ _ _ _ _ _ _ [(v, oBs (own_pad ll))] 0 0 (mkF m 0 #[.val (.ref v), .val (.int 0), .val (.int (Int32.ofNat ll.length))] [])
  refine Goes.runS X [(.iload_n 1, 1)] (S' := [.int 0]) (pc' := 1) rfl ?_
  refine Goes.if1 X (pc' := 10) (o := 9) (cd := .ne) (fun q => absurd q (by decide)) (fun _ => ?_)
  refine Goes.runS X [(.iload_n 2, 1), (.aload_n 0, 1)] (S' := [.ref v, .int (Int32.ofNat ll.length)]) (pc' := 6) rfl ?_
  refine Goes.alen X 0 (n := 17) rfl (own_len17 ll hl) ?_
  show Goes _ _ _ _ _ _ _ _ _ _ _ _ _ _ _ _ _ _ _ _ [(v, oBs (own_pad ll))] 0 0 (mkF m 7 #[.val (.ref v), .val (.int 0), .val (.int (Int32.ofNat ll.length))] [.int (17 : Int32), .int (Int32.ofNat ll.length)])
  by_cases g : ll.length = 17
  · refine Goes.if2 X (pc' := 17) (o := 10) (cd := .eq) (fun _ => ?_) (fun q => absurd (q.symm.trans (by rw [own_c17 ll.length hl]; simp [g] : if_icmp.holds .eq (Int32.ofNat ll.length) (17 : Int32) = true)) (by decide))
    refine Goes.runS X [(.aload_n 0, 1)] (S' := [.ref v]) (pc' := 18) rfl ?_
    refine Goes.clone X 0 0 17 (wd hw 200 rfl) (wd hw 201 rfl) (wd hw 205 rfl) (wd hw 203 rfl) (wd hw 204 rfl) (wd hw 206 rfl) rfl rfl (hcap := (by rw [own_pad_len ll hl]; exact Nat.le_refl _)) (fun b4 => ?_)
    show Goes _ _ _ _ _ _ _ _ _ _ _ _ _ _ _ _ _ _ _ _ [(v, oBs (own_pad ll)), (b4, oBs (own_pad ll))] 1 17 (mkF m 21 #[.val (.ref v), .val (.int 0), .val (.int (Int32.ofNat ll.length))] [.ref b4])
    refine Goes.castA X 1 (wd hw 207 rfl) (wd hw 208 rfl) rfl ?_
    show Goes _ _ _ _ _ _ _ _ _ _ _ _ _ _ _ _ _ _ _ _ [(v, oBs (own_pad ll)), (b4, oBs (own_pad ll))] 1 17 (mkF m 24 #[.val (.ref v), .val (.int 0), .val (.int (Int32.ofNat ll.length))] [.ref b4])
    refine Goes.retA X rfl rfl rfl ?_
    exact ⟨b4, rfl, by rw [own_pad17 ll g]⟩
  · refine Goes.if2 X (pc' := 17) (o := 10) (cd := .eq) (fun q => absurd (q.symm.trans (by rw [own_c17 ll.length hl]; simp [g] : if_icmp.holds .eq (Int32.ofNat ll.length) (17 : Int32) = false)) (by decide)) (fun _ => ?_)
    refine Goes.runS X [(.aload_n 0, 1), (.iload_n 1, 1), (.iload_n 2, 1)] (S' := [.int (Int32.ofNat ll.length), .int 0, .ref v]) (pc' := 13) rfl ?_
    refine Goes.callS X 0 [0] [] (D_crb l Z a0 h0 hw v ll (by omega)) (wd hw 152 rfl) (wd hw 153 rfl) (wd hw 150 rfl) (wd hw 154 rfl) pd_y_26 rfl (st := []) rfl rfl (G := []) rfl rfl ?_
    rintro _ _ ⟨t5, rfl, rfl⟩
    refine ⟨Or.inl rfl, ?_⟩
    refine Goes.retA X rfl rfl rfl ?_
    exact ⟨t5, rfl, rfl⟩
set_option maxRecDepth 65536 in
set_option maxHeartbeats 40000000 in
theorem D_siv (l : Launch) (Z : State) (a0 : Array Value) (h0 : Heap) (hw : ∀ d ∈ tables_1, d.before a0 Z = true) (cs : Int32) (hCS : Sta Z h0 "java/lang/String" "COMPACT_STRINGS" "Z" (.int cs)) (hcs : ¬ cs = 0) (r' a v : Addr) (ll : List Int32) (hl : ll.length ≤ 17) : Does l Z a0 h0 y_21 jdk_42_method_150_code 5 none ({ frames := 3, cells := 1, slots := 17, locals := 71 } : Room) #[.ref r', .ref a, .null] [(r', o_String .null (.int 0)), (a, o_SB (.ref v) (.int 0) (.int (Int32.ofNat ll.length))), (v, oBs (own_pad ll))] (fun r F => ∃ t, r = none ∧ F = [(r', o_String (.ref t) (.int 0)), (a, o_SB (.ref v) (.int 0) (.int (Int32.ofNat ll.length))), (v, oBs (own_pad ll)), (t, oBs (ll.map own_by))]) := by
  refine Does.mk #[.val (.ref r'), .val (.ref a), .val .null, .unset, .unset] (plainFor_of_name (by decide +kernel)) (fun m => by first | (simp [entryFrame, mkF, argsToLocals, Value.category]; done) | rfl) ?_
  intro p e s m args below meth c h X
  show Goes _ _ _ _ _ _ _ _ _ _ _ _ _ _ _ _ _ _ _ _ [(r', o_String .null (.int 0)), (a, o_SB (.ref v) (.int 0) (.int (Int32.ofNat ll.length))), (v, oBs (own_pad ll))] 0 0 (mkF m 0 #[.val (.ref r'), .val (.ref a), .val .null, .unset, .unset] [])
  refine Goes.runS X [(.aload_n 0, 1)] (S' := [.ref r']) (pc' := 1) rfl ?_
  refine Goes.initO X 0 (wd hw 20 rfl) (wd hw 21 rfl) (wd hw 22 rfl) rfl ?_
  refine Goes.runS X [(.aload_n 1, 1)] (S' := [.ref a]) (pc' := 5) rfl ?_
  refine Goes.callV X 0 1 [1] [0, 2] rfl (D_gv l Z a0 h0 hw a v ll.length) (wd hw 134 rfl) (wd hw 135 rfl) (wd hw 137 rfl) (wd hw 136 rfl) (own_nf X (wd hw 137 rfl)) (wd hw 47 rfl) (wd hw 138 rfl) pd_y_22 rfl (st := []) rfl rfl (G := [(r', o_String .null (.int 0)), (v, oBs (own_pad ll))]) rfl rfl ?_
  rintro _ _ ⟨rfl, rfl⟩
  refine ⟨Or.inr (Or.inr fun _ q => Or.inr (Or.inr q)), ?_⟩
  refine Goes.run X [(.astore_n 3, 1), (.aload_n 1, 1)] (L' := #[.val (.ref r'), .val (.ref a), .val .null, .val (.ref v), .unset]) (S' := [.ref a]) (pc' := 10) rfl ?_
  refine Goes.callV X 0 0 [0] [1, 2] rfl (D_sbl l Z a0 h0 hw a v ll.length) (wd hw 139 rfl) (wd hw 140 rfl) (wd hw 142 rfl) (wd hw 143 rfl) (own_nf2 X (wd hw 85 rfl) rfl) (wd hw 38 rfl) (wd hw 144 rfl) pd_y_24 rfl (st := []) rfl rfl (G := [(r', o_String .null (.int 0)), (v, oBs (own_pad ll))]) rfl rfl ?_
  rintro _ _ ⟨rfl, rfl⟩
  refine ⟨Or.inr (Or.inr fun _ q => Or.inr (Or.inr q)), ?_⟩
  refine Goes.run X [(.istore 4, 2), (.aload_n 1, 1)] (L' := #[.val (.ref r'), .val (.ref a), .val .null, .val (.ref v), .val (.int (Int32.ofNat ll.length))]) (S' := [.ref a]) (pc' := 16) rfl ?_
  refine Goes.callV X 0 0 [0] [1, 2] rfl (D_isl l Z a0 h0 hw cs hCS hcs a v ll.length) (wd hw 147 rfl) (wd hw 117 rfl) (wd hw 119 rfl) (wd hw 118 rfl) (own_nf X (wd hw 119 rfl)) (wd hw 47 rfl) (wd hw 120 rfl) pd_y_18 rfl (st := []) rfl rfl (G := [(r', o_String .null (.int 0)), (v, oBs (own_pad ll))]) rfl rfl ?_
  rintro _ _ ⟨rfl, rfl⟩
  refine ⟨Or.inr (Or.inr fun _ q => Or.inr (Or.inr q)), ?_⟩
  refine Goes.if1 X (pc' := 41) (o := 22) (cd := .eq) (fun q => absurd q (by decide)) (fun _ => ?_)
  refine Goes.runS X [(.aload_n 0, 1), (.iconst 0, 1)] (S' := [.int (0 : Int32), .ref r']) (pc' := 24) rfl ?_
  refine Goes.putF X 1 1 rfl rfl (wd hw 25 rfl) Via.refl (Or.inr ⟨(wd hw 26 rfl), rfl, rfl⟩) (wd hw 11 rfl) (own_hn rfl rfl nd_String) (ty := .byte) pf_1 rfl rfl ?_
  refine Goes.runS X [(.aload_n 0, 1), (.aload_n 3, 1), (.iconst 0, 1), (.iload 4, 2)] (S' := [.int (Int32.ofNat ll.length), .int (0 : Int32), .ref v, .ref r']) (pc' := 32) rfl ?_
  refine Goes.callS X 1 [2] [0, 1] (D_cor l Z a0 h0 hw v ll hl) (wd hw 148 rfl) (wd hw 149 rfl) (wd hw 150 rfl) (wd hw 151 rfl) pd_y_25 rfl (st := [.ref r']) rfl rfl (G := [(a, o_SB (.ref v) (.int 0) (.int (Int32.ofNat ll.length))), (r', o_String .null (.int (0 : Int32)))]) rfl rfl ?_
  rintro _ _ ⟨t6, rfl, rfl⟩
  refine ⟨Or.inl rfl, ?_⟩
  refine Goes.putF X 3 0 rfl rfl (wd hw 23 rfl) Via.refl (Or.inr ⟨(wd hw 24 rfl), rfl, rfl⟩) (wd hw 11 rfl) (own_hn rfl rfl nd_String) (ty := (.array .byte)) pf_2 rfl rfl ?_
  refine Goes.goto X (o := 59) (pc' := 97) ?_
  refine Goes.sub [3, 2, 0, 1] (G := [(r', o_String (.ref t6) (.int 0)), (a, o_SB (.ref v) (.int 0) (.int (Int32.ofNat ll.length))), (v, oBs (own_pad ll)), (t6, oBs (ll.map own_by))]) rfl ?_
  refine Goes.retV X ?_
  exact ⟨t6, rfl, rfl⟩
set_option maxRecDepth 65536 in
set_option maxHeartbeats 40000000 in
theorem D_sis (l : Launch) (Z : State) (a0 : Array Value) (h0 : Heap) (hw : ∀ d ∈ tables_1, d.before a0 Z = true) (cs : Int32) (hCS : Sta Z h0 "java/lang/String" "COMPACT_STRINGS" "Z" (.int cs)) (hcs : ¬ cs = 0) (r' a v : Addr) (ll : List Int32) (hl : ll.length ≤ 17) : Does l Z a0 h0 y_20 jdk_42_method_53_code 2 none ({ frames := 4, cells := 1, slots := 17, locals := 87 } : Room) #[.ref r', .ref a] [(r', o_String .null (.int 0)), (a, o_SB (.ref v) (.int 0) (.int (Int32.ofNat ll.length))), (v, oBs (own_pad ll))] (fun r F => ∃ t, r = none ∧ F = [(r', o_String (.ref t) (.int 0)), (a, o_SB (.ref v) (.int 0) (.int (Int32.ofNat ll.length))), (v, oBs (own_pad ll)), (t, oBs (ll.map own_by))]) := by
  refine Does.mk #[.val (.ref r'), .val (.ref a)] (plainFor_of_name (by decide +kernel)) (fun m => by first | (simp [entryFrame, mkF, argsToLocals, Value.category]; done) | rfl) ?_
  intro p e s m args below meth c h X
  show Goes _ _ _ _ _ _ _ _ _ _ _ _ _ _ _ _ _ _ _ _ [(r', o_String .null (.int 0)), (a, o_SB (.ref v) (.int 0) (.int (Int32.ofNat ll.length))), (v, oBs (own_pad ll))] 0 0 (mkF m 0 #[.val (.ref r'), .val (.ref a)] [])
  refine Goes.runS X [(.aload_n 0, 1), (.aload_n 1, 1), (.aconst_null, 1)] (S' := [.null, .ref a, .ref r']) (pc' := 3) rfl ?_
  refine Goes.callN X 0 [0, 1, 2] [] (D_siv l Z a0 h0 hw cs hCS hcs r' a v ll hl) rfl (wd hw 131 rfl) (wd hw 132 rfl) (wd hw 3 rfl) (wd hw 133 rfl) pd_y_21 rfl (st := []) rfl rfl (G := []) rfl rfl ?_
  rintro _ _ ⟨t7, rfl, rfl⟩
  refine ⟨Or.inl rfl, ?_⟩
  refine Goes.retV X ?_
  exact ⟨t7, rfl, rfl⟩
set_option maxRecDepth 65536 in
set_option maxHeartbeats 40000000 in
theorem D_tos (l : Launch) (Z : State) (a0 : Array Value) (h0 : Heap) (hw : ∀ d ∈ tables_1, d.before a0 Z = true) (cs : Int32) (hCS : Sta Z h0 "java/lang/String" "COMPACT_STRINGS" "Z" (.int cs)) (hcs : ¬ cs = 0) (a v : Addr) (ll : List Int32) (hl : ll.length ≤ 17) : Does l Z a0 h0 y_19 jdk_67_method_42_code 1 (some (.object "java/lang/String")) ({ frames := 5, cells := 2, slots := 21, locals := 101 } : Room) #[.ref a] [(a, o_SB (.ref v) (.int 0) (.int (Int32.ofNat ll.length))), (v, oBs (own_pad ll))] (fun r F => ∃ r' t, r = some (.ref r') ∧ F = [(r', o_String (.ref t) (.int 0)), (t, oBs (ll.map own_by))]) := by
  refine Does.mk #[.val (.ref a)] (plainFor_of_name (by decide +kernel)) (fun m => by first | (simp [entryFrame, mkF, argsToLocals, Value.category]; done) | rfl) ?_
  intro p e s m args below meth c h X
  show Goes _ _ _ _ _ _ _ _ _ _ _ _ _ _ _ _ _ _ _ _ [(a, o_SB (.ref v) (.int 0) (.int (Int32.ofNat ll.length))), (v, oBs (own_pad ll))] 0 0 (mkF m 0 #[.val (.ref a)] [])
  refine Goes.new X _ (wd hw 127 rfl) (wd hw 11 rfl) (wd hw 3 rfl) (new_String hw) (fun a8 => ?_)
  refine Goes.runS X [(.dup, 1), (.aload_n 0, 1)] (S' := [.ref a, .ref a8, .ref a8]) (pc' := 5) rfl ?_
  refine Goes.callN X 1 [2, 0, 1] [] (D_sis l Z a0 h0 hw cs hCS hcs a8 a v ll hl) rfl (wd hw 128 rfl) (wd hw 129 rfl) (wd hw 3 rfl) (wd hw 130 rfl) pd_y_20 rfl (st := [.ref a8]) rfl rfl (G := []) rfl rfl ?_
  rintro _ _ ⟨t9, rfl, rfl⟩
  refine ⟨Or.inl rfl, ?_⟩
  refine Goes.sub [0, 3] (G := [(a8, o_String (.ref t9) (.int 0)), (t9, oBs (ll.map own_by))]) rfl ?_
  refine Goes.retA X rfl rfl rfl ?_
  exact ⟨a8, t9, rfl, rfl⟩
set_option maxRecDepth 65536 in
set_option maxHeartbeats 40000000 in
theorem D_tob (l : Launch) (Z : State) (a0 : Array Value) (h0 : Heap) (hw : ∀ d ∈ tables_1, d.before a0 Z = true) (c' : Int32) : Does l Z a0 h0 y_2 jdk_43_method_46_code 1 (some (.array .byte)) ({ frames := 0, cells := 1, slots := 1, locals := 0 } : Room) #[.int c'] [] (fun r F => ∃ t, r = some (.ref t) ∧ F = [(t, oBs ([c'].map own_by))]) := by
  refine Does.mk #[.val (.int c')] (plainFor_of_name (by decide +kernel)) (fun m => by first | (simp [entryFrame, mkF, argsToLocals, Value.category]; done) | rfl) ?_
  intro p e s m args below meth c h X
  show Goes _ _ _ _ _ _ _ _ _ _ _ _ _ _ _ _ _ _ _ _ [] 0 0 (mkF m 0 #[.val (.int c')] [])
  refine Goes.runS X [(.iconst 1, 1)] (S' := [.int (1 : Int32)]) (pc' := 1) rfl ?_
  refine Goes.newarr X (aty := .byte) "[B" 1 1 (wd hw 15 rfl) (by decide +kernel) (by decide) (by decide) (fun a10 => ?_)
  refine Goes.runS X [(.dup, 1), (.iconst 0, 1), (.iload_n 0, 1), (.i2b, 1)] (S' := [.int (oI2b c'), .int (0 : Int32), .ref a10, .ref a10]) (pc' := 7) rfl ?_
  refine Goes.bastore X 0 0 rfl (by decide) (by decide) (Nat.le_of_ble_eq_true rfl) ?_
  rw [own_nb]
  refine Goes.retA X rfl rfl rfl ?_
  exact ⟨a10, rfl, rfl⟩
set_option maxRecDepth 65536 in
set_option maxHeartbeats 40000000 in
theorem D_sbb (l : Launch) (Z : State) (a0 : Array Value) (h0 : Heap) (hw : ∀ d ∈ tables_1, d.before a0 Z = true) (r' t : Addr) : Does l Z a0 h0 y_3 jdk_42_method_151_code 3 none ({ frames := 1, cells := 0, slots := 0, locals := 12 } : Room) #[.ref r', .ref t, .int 0] [(r', o_String .null (.int 0))] (fun r F => r = none ∧ F = [(r', o_String (.ref t) (.int 0))]) := by
  refine Does.mk #[.val (.ref r'), .val (.ref t), .val (.int 0)] (plainFor_of_name (by decide +kernel)) (fun m => by first | (simp [entryFrame, mkF, argsToLocals, Value.category]; done) | rfl) ?_
  intro p e s m args below meth c h X
  show Goes _ _ _ _ _ _ _ _ _ _ _ _ _ _ _ _ _ _ _ _ [(r', o_String .null (.int 0))] 0 0 (mkF m 0 #[.val (.ref r'), .val (.ref t), .val (.int 0)] [])
  refine Goes.runS X [(.aload_n 0, 1)] (S' := [.ref r']) (pc' := 1) rfl ?_
  refine Goes.initO X 0 (wd hw 20 rfl) (wd hw 21 rfl) (wd hw 22 rfl) rfl ?_
  refine Goes.runS X [(.aload_n 0, 1), (.aload_n 1, 1)] (S' := [.ref t, .ref r']) (pc' := 6) rfl ?_
  refine Goes.putF X 0 0 rfl rfl (wd hw 23 rfl) Via.refl (Or.inr ⟨(wd hw 24 rfl), rfl, rfl⟩) (wd hw 11 rfl) (own_hn rfl rfl nd_String) (ty := (.array .byte)) pf_2 rfl rfl ?_
  refine Goes.runS X [(.aload_n 0, 1), (.iload_n 2, 1)] (S' := [.int 0, .ref r']) (pc' := 11) rfl ?_
  refine Goes.putF X 0 1 rfl rfl (wd hw 25 rfl) Via.refl (Or.inr ⟨(wd hw 26 rfl), rfl, rfl⟩) (wd hw 11 rfl) (own_hn rfl rfl nd_String) (ty := .byte) pf_1 rfl rfl ?_
  refine Goes.retV X ?_
  exact ⟨rfl, rfl⟩
set_option maxRecDepth 65536 in
set_option maxHeartbeats 40000000 in
theorem D_vof (l : Launch) (Z : State) (a0 : Array Value) (h0 : Heap) (hw : ∀ d ∈ tables_1, d.before a0 Z = true) (cs : Int32) (hCS : Sta Z h0 "java/lang/String" "COMPACT_STRINGS" "Z" (.int cs)) (hcs : ¬ cs = 0) (c' : Int32) (hc : c' ≤ 255) : Does l Z a0 h0 y_0 jdk_42_method_139_code 1 (some (.object "java/lang/String")) ({ frames := 2, cells := 2, slots := 5, locals := 27 } : Room) #[.int c'] [] (fun r F => ∃ r' t, r = some (.ref r') ∧ F = [(r', o_String (.ref t) (.int 0)), (t, oBs ([c'].map own_by))]) := by
  refine Does.mk #[.val (.int c')] (plainFor_of_name (by decide +kernel)) (fun m => by first | (simp [entryFrame, mkF, argsToLocals, Value.category]; done) | rfl) ?_
  intro p e s m args below meth c h X
  show Goes _ _ _ _ _ _ _ _ _ _ _ _ _ _ _ _ _ _ _ _ [] 0 0 (mkF m 0 #[.val (.int c')] [])
  refine Goes.getS X (wd hw 5 rfl) Via.refl hCS ?_
  refine Goes.if1 X (pc' := 26) (o := 23) (cd := .eq) (fun q => absurd (q.symm.trans (by simpa [ifCond.holds] using hcs : ifCond.holds .eq cs = false)) (by decide)) (fun _ => ?_)
  refine Goes.runS X [(.iload_n 0, 1)] (S' := [.int c']) (pc' := 7) rfl ?_
  refine Goes.callS X 0 [] [] (D_can l Z a0 h0 hw c' hc) (wd hw 6 rfl) (wd hw 7 rfl) (wd hw 8 rfl) (wd hw 9 rfl) pd_y_1 rfl (st := []) rfl rfl (G := []) rfl rfl ?_
  rintro _ _ ⟨rfl, rfl⟩
  refine ⟨Or.inr (Or.inr fun _ q => Or.inr (Or.inr q)), ?_⟩
  refine Goes.if1 X (pc' := 26) (o := 16) (cd := .eq) (fun q => absurd q (by decide)) (fun _ => ?_)
  refine Goes.new X _ (wd hw 10 rfl) (wd hw 11 rfl) (wd hw 3 rfl) (new_String hw) (fun a11 => ?_)
  refine Goes.runS X [(.dup, 1), (.iload_n 0, 1)] (S' := [.int c', .ref a11, .ref a11]) (pc' := 18) rfl ?_
  refine Goes.callS X 2 [] [0] (D_tob l Z a0 h0 hw c') (wd hw 12 rfl) (wd hw 13 rfl) (wd hw 8 rfl) (wd hw 14 rfl) pd_y_2 rfl (st := [.ref a11, .ref a11]) rfl rfl (G := [(a11, o_String .null (.int 0))]) rfl rfl ?_
  rintro _ _ ⟨t12, rfl, rfl⟩
  refine ⟨Or.inl rfl, ?_⟩
  refine Goes.runS X [(.iconst 0, 1)] (S' := [.int (0 : Int32), .ref t12, .ref a11, .ref a11]) (pc' := 22) rfl ?_
  refine Goes.callN X 1 [1] [0] (D_sbb l Z a0 h0 hw a11 t12) rfl (wd hw 16 rfl) (wd hw 17 rfl) (wd hw 3 rfl) (wd hw 19 rfl) pd_y_3 rfl (st := [.ref a11]) rfl rfl (G := [(t12, oBs ([c'].map own_by))]) rfl rfl ?_
  rintro _ _ ⟨rfl, rfl⟩
  refine ⟨Or.inl rfl, ?_⟩
  refine Goes.sub [0, 1] (G := [(a11, o_String (.ref t12) (.int 0)), (t12, oBs ([c'].map own_by))]) rfl ?_
  refine Goes.retA X rfl rfl rfl ?_
  exact ⟨a11, t12, rfl, rfl⟩
def own_pr (m0 m1 : List Int32) : List Int32 := [34] ++ m0 ++ [34, 58, 34] ++ m1 ++ [34]
def own_js0 : List Int32 := [123] ++ [125]
def own_js1 (m0 m1 : List Int32) : List Int32 := [123] ++ own_pr m0 m1 ++ [125]
def own_js2 (m0 m1 m2 m3 : List Int32) : List Int32 := [123] ++ own_pr m0 m1 ++ [44] ++ own_pr m2 m3 ++ [125]
theorem own_u66 : (∀ c ∈ ("{" : String).toList, c.toNat < 256) ∧ ("{" : String).toList.map (fun c => Value.int (Jvm.Lit.byteI c.toNat.toUInt16)) = ([123] : List Int32).map own_by := ⟨by decide +kernel, by decide +kernel⟩
theorem own_u71 : (∀ c ∈ ("\"" : String).toList, c.toNat < 256) ∧ ("\"" : String).toList.map (fun c => Value.int (Jvm.Lit.byteI c.toNat.toUInt16)) = ([34] : List Int32).map own_by := ⟨by decide +kernel, by decide +kernel⟩
theorem own_u73 : (∀ c ∈ (",\"" : String).toList, c.toNat < 256) ∧ (",\"" : String).toList.map (fun c => Value.int (Jvm.Lit.byteI c.toNat.toUInt16)) = ([44, 34] : List Int32).map own_by := ⟨by decide +kernel, by decide +kernel⟩
theorem own_u79 : (∀ c ∈ ("\":\"" : String).toList, c.toNat < 256) ∧ ("\":\"" : String).toList.map (fun c => Value.int (Jvm.Lit.byteI c.toNat.toUInt16)) = ([34, 58, 34] : List Int32).map own_by := ⟨by decide +kernel, by decide +kernel⟩
theorem own_u8 : (∀ c ∈ ("" : String).toList, c.toNat < 256) ∧ ("" : String).toList.map (fun c => Value.int (Jvm.Lit.byteI c.toNat.toUInt16)) = ([] : List Int32).map own_by := ⟨by decide +kernel, by decide +kernel⟩
set_option maxRecDepth 65536 in
set_option maxHeartbeats 40000000 in
theorem D_json0 (l : Launch) (Z : State) (a0 : Array Value) (h0 : Heap) (hw : ∀ d ∈ tables_1, d.before a0 Z = true) (cs : Int32) (hCS : Sta Z h0 "java/lang/String" "COMPACT_STRINGS" "Z" (.int cs)) (hcs : ¬ cs = 0) (g : Addr) : DoesW l Z a0 own_EL h0 y_4 prog_27_method_4_code 3 (some (.object "java/lang/String")) ({ frames := 8, cells := 6, slots := 50, locals := 139 } : Room) #[.ref g] [(g, ar "[Ljava/lang/String;" (.object "java/lang/String") [])] (fun r F => ∃ r' t, r = some (.ref r') ∧ F = [(r', o_String (.ref t) (.int 0)), (t, oBs (own_js0.map own_by))]) := by
  refine DoesW.mk #[.val (.ref g), .unset, .unset] (plainFor_of_name (by decide +kernel)) (fun m => by first | (simp [entryFrame, mkF, argsToLocals, Value.category]; done) | rfl) ?_
  intro p e s0 vmS vm0 k0 m args below meth c h X
  show Goes _ _ _ _ _ _ _ _ _ _ _ _ _ _ _ _ _ _ _ _ [(g, ar "[Ljava/lang/String;" (.object "java/lang/String") [])] 0 0 (mkF m 0 #[.val (.ref g), .unset, .unset] [])
  refine Goes.new X _ (wd hw 36 rfl) (wd hw 37 rfl) (wd hw 38 rfl) (new_SB hw) (fun a13 => ?_)
  refine Goes.runS X [(.dup, 1)] (S' := [.ref a13, .ref a13]) (pc' := 4) rfl ?_
  refine Goes.ldcR X 4 (([123] : List Int32).map own_by) 1 (wd hw 39 rfl) (own_wS hw) (by decide) (own_Lv hw) (own_Lc hw) own_u66 (by decide) (by decide) (by decide) (fun a14 b15 vm0 k0 X => ?_)
  show Goes _ _ _ _ _ _ _ _ _ _ _ _ _ _ _ _ _ _ _ _ [(g, ar "[Ljava/lang/String;" (.object "java/lang/String") []), (a13, o_SB .null (.int 0) (.int 0)), (a14, ro 2 (o_String (.ref b15) (.int 0))), (b15, ro 2 (ar "" .byte (([123] : List Int32).map own_by)))] 3 12 (mkF m 6 #[.val (.ref g), .unset, .unset] [.ref a14, .ref a13, .ref a13])
  refine Goes.callN X 1 [1, 2, 3] [0] (D_sbi l Z a0 h0 hw cs hCS hcs a13 a14 b15 2 2 "" 123) rfl (wd hw 40 rfl) (wd hw 41 rfl) (wd hw 38 rfl) (wd hw 42 rfl) pd_y_5 rfl (st := [.ref a13]) rfl rfl (G := [(g, ar "[Ljava/lang/String;" (.object "java/lang/String") [])]) rfl rfl ?_
  rintro _ _ ⟨v16, rfl, rfl⟩
  refine ⟨Or.inr (Or.inr (by simp)), ?_⟩
  refine Goes.sub [0, 1, 4] (G := [(a13, o_SB (.ref v16) (.int 0) (.int (Int32.ofNat ([123] : List Int32).length))), (v16, oBs (own_pad ([123] : List Int32))), (g, ar "[Ljava/lang/String;" (.object "java/lang/String") [])]) rfl ?_
  show Goes _ _ _ _ _ _ _ _ _ _ _ _ _ _ _ _ _ _ _ _ [(a13, o_SB (.ref v16) (.int 0) (.int (Int32.ofNat ([123] : List Int32).length))), (v16, oBs (own_pad ([123] : List Int32))), (g, ar "[Ljava/lang/String;" (.object "java/lang/String") [])] 4 29 (mkF m 9 #[.val (.ref g), .unset, .unset] [.ref a13])
  refine Goes.run X [(.astore_n 1, 1), (.iconst 0, 1), (.istore_n 2, 1), (.iload_n 2, 1), (.aload_n 0, 1)] (L' := #[.val (.ref g), .val (.ref a13), .val (.int (0 : Int32))]) (S' := [.ref g, .int (0 : Int32)]) (pc' := 14) rfl ?_
  refine Goes.alen X 2 (n := 0) rfl rfl ?_
  refine Goes.if2 X (pc' := 66) (o := 51) (cd := .ge) (fun _ => ?_) (fun q => absurd q (by decide))
  refine Goes.runS X [(.aload_n 1, 1), (.bipush 125, 2)] (S' := [.int (125 : Int32), .ref a13]) (pc' := 69) rfl ?_
  refine Goes.callV X 0 0 [0, 1] [2] rfl (D_scc l Z a0 h0 hw cs hCS hcs a13 v16 ([123] : List Int32) (by (try simp only [List.length_append, List.length_cons, List.length_nil]) <;> omega) (125 : Int32) (by decide)) (wd hw 107 rfl) (wd hw 108 rfl) (wd hw 110 rfl) (wd hw 109 rfl) (own_nf X (wd hw 110 rfl)) (wd hw 38 rfl) (wd hw 111 rfl) pd_y_16 rfl (st := []) rfl rfl (G := [(g, ar "[Ljava/lang/String;" (.object "java/lang/String") [])]) rfl rfl ?_
  rintro _ _ ⟨rfl, rfl⟩
  refine ⟨Or.inl rfl, ?_⟩
  refine Goes.sub [0, 1, 2] (G := [(a13, o_SB (.ref v16) (.int 0) (.int (Int32.ofNat (([123] : List Int32) ++ [(125 : Int32)]).length))), (v16, oBs (own_pad (([123] : List Int32) ++ [(125 : Int32)]))), (g, ar "[Ljava/lang/String;" (.object "java/lang/String") [])]) rfl ?_
  show Goes _ _ _ _ _ _ _ _ _ _ _ _ _ _ _ _ _ _ _ _ [(a13, o_SB (.ref v16) (.int 0) (.int (Int32.ofNat (([123] : List Int32) ++ [(125 : Int32)]).length))), (v16, oBs (own_pad (([123] : List Int32) ++ [(125 : Int32)]))), (g, ar "[Ljava/lang/String;" (.object "java/lang/String") [])] 4 29 (mkF m 72 #[.val (.ref g), .val (.ref a13), .val (.int (0 : Int32))] [.ref a13])
  refine Goes.callV X 0 0 [0, 1] [2] rfl (D_tos l Z a0 h0 hw cs hCS hcs a13 v16 (([123] : List Int32) ++ [(125 : Int32)]) (by (try simp only [List.length_append, List.length_cons, List.length_nil]) <;> omega)) (wd hw 122 rfl) (wd hw 123 rfl) (wd hw 125 rfl) (wd hw 124 rfl) (own_nf X (wd hw 125 rfl)) (wd hw 38 rfl) (wd hw 126 rfl) pd_y_19 rfl (st := []) rfl rfl (G := [(g, ar "[Ljava/lang/String;" (.object "java/lang/String") [])]) rfl rfl ?_
  rintro _ _ ⟨r17, t18, rfl, rfl⟩
  refine ⟨Or.inl rfl, ?_⟩
  have eJ : (([123] : List Int32) ++ [(125 : Int32)]) = own_js0 := by simp only [own_js0, own_js1, own_js2, own_pr, List.append_assoc, List.cons_append, List.nil_append]
  refine Goes.sub [0, 1] (G := [(r17, o_String (.ref t18) (.int 0)), (t18, oBs ((([123] : List Int32) ++ [(125 : Int32)]).map own_by))]) rfl ?_
  show Goes _ _ _ _ _ _ _ _ _ _ _ _ _ _ _ _ _ _ _ _ [(r17, o_String (.ref t18) (.int 0)), (t18, oBs ((([123] : List Int32) ++ [(125 : Int32)]).map own_by))] 6 50 (mkF m 75 #[.val (.ref g), .val (.ref a13), .val (.int (0 : Int32))] [.ref r17])
  rw [eJ]
  show Goes _ _ _ _ _ _ _ _ _ _ _ _ _ _ _ _ _ _ _ _ [(r17, o_String (.ref t18) (.int 0)), (t18, oBs (own_js0.map own_by))] 6 50 (mkF m 75 #[.val (.ref g), .val (.ref a13), .val (.int (0 : Int32))] [.ref r17])
  refine Goes.retA X rfl rfl rfl ?_
  exact ⟨r17, t18, rfl, rfl⟩
set_option maxRecDepth 65536 in
set_option maxHeartbeats 40000000 in
theorem D_json1 (l : Launch) (Z : State) (a0 : Array Value) (h0 : Heap) (hw : ∀ d ∈ tables_1, d.before a0 Z = true) (cs : Int32) (hCS : Sta Z h0 "java/lang/String" "COMPACT_STRINGS" "Z" (.int cs)) (hcs : ¬ cs = 0) (g : Addr) (q0 b0 : Addr) (ts0 tb0 : Nat) (D0 : String) (mm0 : List Int32) (hm0 : mm0.length ≤ 1) (q1 b1 : Addr) (ts1 tb1 : Nat) (D1 : String) (mm1 : List Int32) (hm1 : mm1.length ≤ 1) : DoesW l Z a0 own_EL h0 y_4 prog_27_method_4_code 3 (some (.object "java/lang/String")) ({ frames := 8, cells := 10, slots := 74, locals := 139 } : Room) #[.ref g] [(g, ar "[Ljava/lang/String;" (.object "java/lang/String") [.ref q0, .ref q1]), (q0, ro ts0 (o_String (.ref b0) (.int 0))), (b0, ro tb0 (ar D0 .byte (mm0.map own_by))), (q1, ro ts1 (o_String (.ref b1) (.int 0))), (b1, ro tb1 (ar D1 .byte (mm1.map own_by)))] (fun r F => ∃ r' t, r = some (.ref r') ∧ F = [(r', o_String (.ref t) (.int 0)), (t, oBs ((own_js1 mm0 mm1).map own_by))]) := by
  refine DoesW.mk #[.val (.ref g), .unset, .unset] (plainFor_of_name (by decide +kernel)) (fun m => by first | (simp [entryFrame, mkF, argsToLocals, Value.category]; done) | rfl) ?_
  intro p e s0 vmS vm0 k0 m args below meth c h X
  show Goes _ _ _ _ _ _ _ _ _ _ _ _ _ _ _ _ _ _ _ _ [(g, ar "[Ljava/lang/String;" (.object "java/lang/String") [.ref q0, .ref q1]), (q0, ro ts0 (o_String (.ref b0) (.int 0))), (b0, ro tb0 (ar D0 .byte (mm0.map own_by))), (q1, ro ts1 (o_String (.ref b1) (.int 0))), (b1, ro tb1 (ar D1 .byte (mm1.map own_by)))] 0 0 (mkF m 0 #[.val (.ref g), .unset, .unset] [])
  refine Goes.new X _ (wd hw 36 rfl) (wd hw 37 rfl) (wd hw 38 rfl) (new_SB hw) (fun a19 => ?_)
  refine Goes.runS X [(.dup, 1)] (S' := [.ref a19, .ref a19]) (pc' := 4) rfl ?_
  refine Goes.ldcR X 4 (([123] : List Int32).map own_by) 1 (wd hw 39 rfl) (own_wS hw) (by decide) (own_Lv hw) (own_Lc hw) own_u66 (by decide) (by decide) (by decide) (fun a20 b21 vm0 k0 X => ?_)
  show Goes _ _ _ _ _ _ _ _ _ _ _ _ _ _ _ _ _ _ _ _ [(g, ar "[Ljava/lang/String;" (.object "java/lang/String") [.ref q0, .ref q1]), (q0, ro ts0 (o_String (.ref b0) (.int 0))), (b0, ro tb0 (ar D0 .byte (mm0.map own_by))), (q1, ro ts1 (o_String (.ref b1) (.int 0))), (b1, ro tb1 (ar D1 .byte (mm1.map own_by))), (a19, o_SB .null (.int 0) (.int 0)), (a20, ro 2 (o_String (.ref b21) (.int 0))), (b21, ro 2 (ar "" .byte (([123] : List Int32).map own_by)))] 3 12 (mkF m 6 #[.val (.ref g), .unset, .unset] [.ref a20, .ref a19, .ref a19])
  refine Goes.callN X 1 [5, 6, 7] [0, 1, 2, 3, 4] (D_sbi l Z a0 h0 hw cs hCS hcs a19 a20 b21 2 2 "" 123) rfl (wd hw 40 rfl) (wd hw 41 rfl) (wd hw 38 rfl) (wd hw 42 rfl) pd_y_5 rfl (st := [.ref a19]) rfl rfl (G := [(g, ar "[Ljava/lang/String;" (.object "java/lang/String") [.ref q0, .ref q1]), (q0, ro ts0 (o_String (.ref b0) (.int 0))), (b0, ro tb0 (ar D0 .byte (mm0.map own_by))), (q1, ro ts1 (o_String (.ref b1) (.int 0))), (b1, ro tb1 (ar D1 .byte (mm1.map own_by)))]) rfl rfl ?_
  rintro _ _ ⟨v22, rfl, rfl⟩
  refine ⟨Or.inr (Or.inr (by simp)), ?_⟩
  refine Goes.sub [0, 1, 4, 5, 6, 7, 8] (G := [(a19, o_SB (.ref v22) (.int 0) (.int (Int32.ofNat ([123] : List Int32).length))), (v22, oBs (own_pad ([123] : List Int32))), (g, ar "[Ljava/lang/String;" (.object "java/lang/String") [.ref q0, .ref q1]), (q0, ro ts0 (o_String (.ref b0) (.int 0))), (b0, ro tb0 (ar D0 .byte (mm0.map own_by))), (q1, ro ts1 (o_String (.ref b1) (.int 0))), (b1, ro tb1 (ar D1 .byte (mm1.map own_by)))]) rfl ?_
  show Goes _ _ _ _ _ _ _ _ _ _ _ _ _ _ _ _ _ _ _ _ [(a19, o_SB (.ref v22) (.int 0) (.int (Int32.ofNat ([123] : List Int32).length))), (v22, oBs (own_pad ([123] : List Int32))), (g, ar "[Ljava/lang/String;" (.object "java/lang/String") [.ref q0, .ref q1]), (q0, ro ts0 (o_String (.ref b0) (.int 0))), (b0, ro tb0 (ar D0 .byte (mm0.map own_by))), (q1, ro ts1 (o_String (.ref b1) (.int 0))), (b1, ro tb1 (ar D1 .byte (mm1.map own_by)))] 4 29 (mkF m 9 #[.val (.ref g), .unset, .unset] [.ref a19])
  refine Goes.run X [(.astore_n 1, 1), (.iconst 0, 1), (.istore_n 2, 1), (.iload_n 2, 1), (.aload_n 0, 1)] (L' := #[.val (.ref g), .val (.ref a19), .val (.int (0 : Int32))]) (S' := [.ref g, .int (0 : Int32)]) (pc' := 14) rfl ?_
  refine Goes.alen X 2 (n := 2) rfl rfl ?_
  refine Goes.if2 X (pc' := 66) (o := 51) (cd := .ge) (fun q => absurd q (by decide)) (fun _ => ?_)
  refine Goes.runS X [(.aload_n 1, 1), (.iload_n 2, 1)] (S' := [.int (0 : Int32), .ref a19]) (pc' := 20) rfl ?_
  refine Goes.if1 X (pc' := 28) (o := 8) (cd := .ne) (fun q => absurd q (by decide)) (fun _ => ?_)
  refine Goes.ldcR X 4 (([34] : List Int32).map own_by) 1 (wd hw 193 rfl) (own_wS hw) (by decide) (own_Lv hw) (own_Lc hw) own_u71 (by decide) (by decide) (by decide) (fun a23 b24 vm0 k0 X => ?_)
  show Goes _ _ _ _ _ _ _ _ _ _ _ _ _ _ _ _ _ _ _ _ [(a19, o_SB (.ref v22) (.int 0) (.int (Int32.ofNat ([123] : List Int32).length))), (v22, oBs (own_pad ([123] : List Int32))), (g, ar "[Ljava/lang/String;" (.object "java/lang/String") [.ref q0, .ref q1]), (q0, ro ts0 (o_String (.ref b0) (.int 0))), (b0, ro tb0 (ar D0 .byte (mm0.map own_by))), (q1, ro ts1 (o_String (.ref b1) (.int 0))), (b1, ro tb1 (ar D1 .byte (mm1.map own_by))), (a23, ro 2 (o_String (.ref b24) (.int 0))), (b24, ro 2 (ar "" .byte (([34] : List Int32).map own_by)))] 6 37 (mkF m 25 #[.val (.ref g), .val (.ref a19), .val (.int (0 : Int32))] [.ref a23, .ref a19])
  refine Goes.goto X (o := 5) (pc' := 30) ?_
  refine Goes.callV X 0 0 [0, 1, 7, 8] [2, 3, 4, 5, 6] rfl (D_sap l Z a0 h0 hw cs hCS hcs a19 v22 a23 b24 2 2 "" ([34] : List Int32) ([123] : List Int32) (by (try simp only [List.length_append, List.length_cons, List.length_nil]) <;> omega)) (wd hw 194 rfl) (wd hw 73 rfl) (wd hw 75 rfl) (wd hw 74 rfl) (own_nf X (wd hw 75 rfl)) (wd hw 38 rfl) (wd hw 76 rfl) pd_y_10 rfl (st := []) rfl rfl (G := [(g, ar "[Ljava/lang/String;" (.object "java/lang/String") [.ref q0, .ref q1]), (q0, ro ts0 (o_String (.ref b0) (.int 0))), (b0, ro tb0 (ar D0 .byte (mm0.map own_by))), (q1, ro ts1 (o_String (.ref b1) (.int 0))), (b1, ro tb1 (ar D1 .byte (mm1.map own_by)))]) rfl rfl ?_
  rintro _ _ ⟨rfl, rfl⟩
  refine ⟨Or.inr (Or.inr (by simp)), ?_⟩
  refine Goes.sub [0, 1, 4, 5, 6, 7, 8] (G := [(a19, o_SB (.ref v22) (.int 0) (.int (Int32.ofNat (([123] : List Int32) ++ ([34] : List Int32)).length))), (v22, oBs (own_pad (([123] : List Int32) ++ ([34] : List Int32)))), (g, ar "[Ljava/lang/String;" (.object "java/lang/String") [.ref q0, .ref q1]), (q0, ro ts0 (o_String (.ref b0) (.int 0))), (b0, ro tb0 (ar D0 .byte (mm0.map own_by))), (q1, ro ts1 (o_String (.ref b1) (.int 0))), (b1, ro tb1 (ar D1 .byte (mm1.map own_by)))]) rfl ?_
  show Goes _ _ _ _ _ _ _ _ _ _ _ _ _ _ _ _ _ _ _ _ [(a19, o_SB (.ref v22) (.int 0) (.int (Int32.ofNat (([123] : List Int32) ++ ([34] : List Int32)).length))), (v22, oBs (own_pad (([123] : List Int32) ++ ([34] : List Int32)))), (g, ar "[Ljava/lang/String;" (.object "java/lang/String") [.ref q0, .ref q1]), (q0, ro ts0 (o_String (.ref b0) (.int 0))), (b0, ro tb0 (ar D0 .byte (mm0.map own_by))), (q1, ro ts1 (o_String (.ref b1) (.int 0))), (b1, ro tb1 (ar D1 .byte (mm1.map own_by)))] 6 37 (mkF m 33 #[.val (.ref g), .val (.ref a19), .val (.int (0 : Int32))] [.ref a19])
  refine Goes.runS X [(.aload_n 0, 1), (.iload_n 2, 1)] (S' := [.int (0 : Int32), .ref g, .ref a19]) (pc' := 35) rfl ?_
  refine Goes.aaload X 2 0 rfl rfl (by decide) (by decide) rfl ?_
  refine Goes.callV X 0 0 [0, 1, 3, 4] [2, 5, 6] rfl (D_sap l Z a0 h0 hw cs hCS hcs a19 v22 q0 b0 ts0 tb0 D0 mm0 (([123] : List Int32) ++ ([34] : List Int32)) (by (try simp only [List.length_append, List.length_cons, List.length_nil]) <;> omega)) (wd hw 194 rfl) (wd hw 73 rfl) (wd hw 75 rfl) (wd hw 74 rfl) (own_nf X (wd hw 75 rfl)) (wd hw 38 rfl) (wd hw 76 rfl) pd_y_10 rfl (st := []) rfl rfl (G := [(g, ar "[Ljava/lang/String;" (.object "java/lang/String") [.ref q0, .ref q1]), (q1, ro ts1 (o_String (.ref b1) (.int 0))), (b1, ro tb1 (ar D1 .byte (mm1.map own_by)))]) rfl rfl ?_
  rintro _ _ ⟨rfl, rfl⟩
  refine ⟨Or.inr (Or.inr (by simp)), ?_⟩
  refine Goes.sub [0, 1, 4, 2, 3, 5, 6] (G := [(a19, o_SB (.ref v22) (.int 0) (.int (Int32.ofNat ((([123] : List Int32) ++ ([34] : List Int32)) ++ mm0).length))), (v22, oBs (own_pad ((([123] : List Int32) ++ ([34] : List Int32)) ++ mm0))), (g, ar "[Ljava/lang/String;" (.object "java/lang/String") [.ref q0, .ref q1]), (q0, ro ts0 (o_String (.ref b0) (.int 0))), (b0, ro tb0 (ar D0 .byte (mm0.map own_by))), (q1, ro ts1 (o_String (.ref b1) (.int 0))), (b1, ro tb1 (ar D1 .byte (mm1.map own_by)))]) rfl ?_
  show Goes _ _ _ _ _ _ _ _ _ _ _ _ _ _ _ _ _ _ _ _ [(a19, o_SB (.ref v22) (.int 0) (.int (Int32.ofNat ((([123] : List Int32) ++ ([34] : List Int32)) ++ mm0).length))), (v22, oBs (own_pad ((([123] : List Int32) ++ ([34] : List Int32)) ++ mm0))), (g, ar "[Ljava/lang/String;" (.object "java/lang/String") [.ref q0, .ref q1]), (q0, ro ts0 (o_String (.ref b0) (.int 0))), (b0, ro tb0 (ar D0 .byte (mm0.map own_by))), (q1, ro ts1 (o_String (.ref b1) (.int 0))), (b1, ro tb1 (ar D1 .byte (mm1.map own_by)))] 6 37 (mkF m 39 #[.val (.ref g), .val (.ref a19), .val (.int (0 : Int32))] [.ref a19])
  refine Goes.ldcR X 12 (([34, 58, 34] : List Int32).map own_by) 3 (wd hw 195 rfl) (own_wS hw) (by decide) (own_Lv hw) (own_Lc hw) own_u79 (by decide) (by decide) (by decide) (fun a25 b26 vm0 k0 X => ?_)
  show Goes _ _ _ _ _ _ _ _ _ _ _ _ _ _ _ _ _ _ _ _ [(a19, o_SB (.ref v22) (.int 0) (.int (Int32.ofNat ((([123] : List Int32) ++ ([34] : List Int32)) ++ mm0).length))), (v22, oBs (own_pad ((([123] : List Int32) ++ ([34] : List Int32)) ++ mm0))), (g, ar "[Ljava/lang/String;" (.object "java/lang/String") [.ref q0, .ref q1]), (q0, ro ts0 (o_String (.ref b0) (.int 0))), (b0, ro tb0 (ar D0 .byte (mm0.map own_by))), (q1, ro ts1 (o_String (.ref b1) (.int 0))), (b1, ro tb1 (ar D1 .byte (mm1.map own_by))), (a25, ro 2 (o_String (.ref b26) (.int 0))), (b26, ro 2 (ar "" .byte (([34, 58, 34] : List Int32).map own_by)))] 8 53 (mkF m 41 #[.val (.ref g), .val (.ref a19), .val (.int (0 : Int32))] [.ref a25, .ref a19])
  refine Goes.callV X 0 0 [0, 1, 7, 8] [2, 3, 4, 5, 6] rfl (D_sap l Z a0 h0 hw cs hCS hcs a19 v22 a25 b26 2 2 "" ([34, 58, 34] : List Int32) ((([123] : List Int32) ++ ([34] : List Int32)) ++ mm0) (by (try simp only [List.length_append, List.length_cons, List.length_nil]) <;> omega)) (wd hw 194 rfl) (wd hw 73 rfl) (wd hw 75 rfl) (wd hw 74 rfl) (own_nf X (wd hw 75 rfl)) (wd hw 38 rfl) (wd hw 76 rfl) pd_y_10 rfl (st := []) rfl rfl (G := [(g, ar "[Ljava/lang/String;" (.object "java/lang/String") [.ref q0, .ref q1]), (q0, ro ts0 (o_String (.ref b0) (.int 0))), (b0, ro tb0 (ar D0 .byte (mm0.map own_by))), (q1, ro ts1 (o_String (.ref b1) (.int 0))), (b1, ro tb1 (ar D1 .byte (mm1.map own_by)))]) rfl rfl ?_
  rintro _ _ ⟨rfl, rfl⟩
  refine ⟨Or.inr (Or.inr (by simp)), ?_⟩
  refine Goes.sub [0, 1, 4, 5, 6, 7, 8] (G := [(a19, o_SB (.ref v22) (.int 0) (.int (Int32.ofNat (((([123] : List Int32) ++ ([34] : List Int32)) ++ mm0) ++ ([34, 58, 34] : List Int32)).length))), (v22, oBs (own_pad (((([123] : List Int32) ++ ([34] : List Int32)) ++ mm0) ++ ([34, 58, 34] : List Int32)))), (g, ar "[Ljava/lang/String;" (.object "java/lang/String") [.ref q0, .ref q1]), (q0, ro ts0 (o_String (.ref b0) (.int 0))), (b0, ro tb0 (ar D0 .byte (mm0.map own_by))), (q1, ro ts1 (o_String (.ref b1) (.int 0))), (b1, ro tb1 (ar D1 .byte (mm1.map own_by)))]) rfl ?_
  show Goes _ _ _ _ _ _ _ _ _ _ _ _ _ _ _ _ _ _ _ _ [(a19, o_SB (.ref v22) (.int 0) (.int (Int32.ofNat (((([123] : List Int32) ++ ([34] : List Int32)) ++ mm0) ++ ([34, 58, 34] : List Int32)).length))), (v22, oBs (own_pad (((([123] : List Int32) ++ ([34] : List Int32)) ++ mm0) ++ ([34, 58, 34] : List Int32)))), (g, ar "[Ljava/lang/String;" (.object "java/lang/String") [.ref q0, .ref q1]), (q0, ro ts0 (o_String (.ref b0) (.int 0))), (b0, ro tb0 (ar D0 .byte (mm0.map own_by))), (q1, ro ts1 (o_String (.ref b1) (.int 0))), (b1, ro tb1 (ar D1 .byte (mm1.map own_by)))] 8 53 (mkF m 44 #[.val (.ref g), .val (.ref a19), .val (.int (0 : Int32))] [.ref a19])
  refine Goes.runS X [(.pop, 1), (.aload_n 1, 1), (.aload_n 0, 1), (.iload_n 2, 1), (.iconst 1, 1), (.iadd, 1)] (S' := [.int (1 : Int32), .ref g, .ref a19]) (pc' := 50) rfl ?_
  refine Goes.aaload X 2 1 rfl rfl (by decide) (by decide) rfl ?_
  refine Goes.callV X 0 0 [0, 1, 5, 6] [2, 3, 4] rfl (D_sap l Z a0 h0 hw cs hCS hcs a19 v22 q1 b1 ts1 tb1 D1 mm1 (((([123] : List Int32) ++ ([34] : List Int32)) ++ mm0) ++ ([34, 58, 34] : List Int32)) (by (try simp only [List.length_append, List.length_cons, List.length_nil]) <;> omega)) (wd hw 194 rfl) (wd hw 73 rfl) (wd hw 75 rfl) (wd hw 74 rfl) (own_nf X (wd hw 75 rfl)) (wd hw 38 rfl) (wd hw 76 rfl) pd_y_10 rfl (st := []) rfl rfl (G := [(g, ar "[Ljava/lang/String;" (.object "java/lang/String") [.ref q0, .ref q1]), (q0, ro ts0 (o_String (.ref b0) (.int 0))), (b0, ro tb0 (ar D0 .byte (mm0.map own_by)))]) rfl rfl ?_
  rintro _ _ ⟨rfl, rfl⟩
  refine ⟨Or.inr (Or.inr (by simp)), ?_⟩
  refine Goes.sub [0, 1, 4, 5, 6, 2, 3] (G := [(a19, o_SB (.ref v22) (.int 0) (.int (Int32.ofNat ((((([123] : List Int32) ++ ([34] : List Int32)) ++ mm0) ++ ([34, 58, 34] : List Int32)) ++ mm1).length))), (v22, oBs (own_pad ((((([123] : List Int32) ++ ([34] : List Int32)) ++ mm0) ++ ([34, 58, 34] : List Int32)) ++ mm1))), (g, ar "[Ljava/lang/String;" (.object "java/lang/String") [.ref q0, .ref q1]), (q0, ro ts0 (o_String (.ref b0) (.int 0))), (b0, ro tb0 (ar D0 .byte (mm0.map own_by))), (q1, ro ts1 (o_String (.ref b1) (.int 0))), (b1, ro tb1 (ar D1 .byte (mm1.map own_by)))]) rfl ?_
  show Goes _ _ _ _ _ _ _ _ _ _ _ _ _ _ _ _ _ _ _ _ [(a19, o_SB (.ref v22) (.int 0) (.int (Int32.ofNat ((((([123] : List Int32) ++ ([34] : List Int32)) ++ mm0) ++ ([34, 58, 34] : List Int32)) ++ mm1).length))), (v22, oBs (own_pad ((((([123] : List Int32) ++ ([34] : List Int32)) ++ mm0) ++ ([34, 58, 34] : List Int32)) ++ mm1))), (g, ar "[Ljava/lang/String;" (.object "java/lang/String") [.ref q0, .ref q1]), (q0, ro ts0 (o_String (.ref b0) (.int 0))), (b0, ro tb0 (ar D0 .byte (mm0.map own_by))), (q1, ro ts1 (o_String (.ref b1) (.int 0))), (b1, ro tb1 (ar D1 .byte (mm1.map own_by)))] 8 53 (mkF m 54 #[.val (.ref g), .val (.ref a19), .val (.int (0 : Int32))] [.ref a19])
  refine Goes.runS X [(.bipush 34, 2)] (S' := [.int (34 : Int32), .ref a19]) (pc' := 56) rfl ?_
  refine Goes.callV X 0 0 [0, 1] [2, 3, 4, 5, 6] rfl (D_scc l Z a0 h0 hw cs hCS hcs a19 v22 ((((([123] : List Int32) ++ ([34] : List Int32)) ++ mm0) ++ ([34, 58, 34] : List Int32)) ++ mm1) (by (try simp only [List.length_append, List.length_cons, List.length_nil]) <;> omega) (34 : Int32) (by decide)) (wd hw 107 rfl) (wd hw 108 rfl) (wd hw 110 rfl) (wd hw 109 rfl) (own_nf X (wd hw 110 rfl)) (wd hw 38 rfl) (wd hw 111 rfl) pd_y_16 rfl (st := []) rfl rfl (G := [(g, ar "[Ljava/lang/String;" (.object "java/lang/String") [.ref q0, .ref q1]), (q0, ro ts0 (o_String (.ref b0) (.int 0))), (b0, ro tb0 (ar D0 .byte (mm0.map own_by))), (q1, ro ts1 (o_String (.ref b1) (.int 0))), (b1, ro tb1 (ar D1 .byte (mm1.map own_by)))]) rfl rfl ?_
  rintro _ _ ⟨rfl, rfl⟩
  refine ⟨Or.inl rfl, ?_⟩
  refine Goes.sub [0, 1, 2, 3, 4, 5, 6] (G := [(a19, o_SB (.ref v22) (.int 0) (.int (Int32.ofNat (((((([123] : List Int32) ++ ([34] : List Int32)) ++ mm0) ++ ([34, 58, 34] : List Int32)) ++ mm1) ++ [(34 : Int32)]).length))), (v22, oBs (own_pad (((((([123] : List Int32) ++ ([34] : List Int32)) ++ mm0) ++ ([34, 58, 34] : List Int32)) ++ mm1) ++ [(34 : Int32)]))), (g, ar "[Ljava/lang/String;" (.object "java/lang/String") [.ref q0, .ref q1]), (q0, ro ts0 (o_String (.ref b0) (.int 0))), (b0, ro tb0 (ar D0 .byte (mm0.map own_by))), (q1, ro ts1 (o_String (.ref b1) (.int 0))), (b1, ro tb1 (ar D1 .byte (mm1.map own_by)))]) rfl ?_
  show Goes _ _ _ _ _ _ _ _ _ _ _ _ _ _ _ _ _ _ _ _ [(a19, o_SB (.ref v22) (.int 0) (.int (Int32.ofNat (((((([123] : List Int32) ++ ([34] : List Int32)) ++ mm0) ++ ([34, 58, 34] : List Int32)) ++ mm1) ++ [(34 : Int32)]).length))), (v22, oBs (own_pad (((((([123] : List Int32) ++ ([34] : List Int32)) ++ mm0) ++ ([34, 58, 34] : List Int32)) ++ mm1) ++ [(34 : Int32)]))), (g, ar "[Ljava/lang/String;" (.object "java/lang/String") [.ref q0, .ref q1]), (q0, ro ts0 (o_String (.ref b0) (.int 0))), (b0, ro tb0 (ar D0 .byte (mm0.map own_by))), (q1, ro ts1 (o_String (.ref b1) (.int 0))), (b1, ro tb1 (ar D1 .byte (mm1.map own_by)))] 8 53 (mkF m 59 #[.val (.ref g), .val (.ref a19), .val (.int (0 : Int32))] [.ref a19])
  refine Goes.run X [(.pop, 1), (.iinc 2 2, 3)] (L' := #[.val (.ref g), .val (.ref a19), .val (.int (2 : Int32))]) (S' := []) (pc' := 63) rfl ?_
  refine Goes.goto X (o := (-51)) (pc' := 12) ?_
  refine Goes.runS X [(.iload_n 2, 1), (.aload_n 0, 1)] (S' := [.ref g, .int (2 : Int32)]) (pc' := 14) rfl ?_
  refine Goes.alen X 2 (n := 2) rfl rfl ?_
  refine Goes.if2 X (pc' := 66) (o := 51) (cd := .ge) (fun _ => ?_) (fun q => absurd q (by decide))
  refine Goes.runS X [(.aload_n 1, 1), (.bipush 125, 2)] (S' := [.int (125 : Int32), .ref a19]) (pc' := 69) rfl ?_
  refine Goes.callV X 0 0 [0, 1] [2, 3, 4, 5, 6] rfl (D_scc l Z a0 h0 hw cs hCS hcs a19 v22 (((((([123] : List Int32) ++ ([34] : List Int32)) ++ mm0) ++ ([34, 58, 34] : List Int32)) ++ mm1) ++ [(34 : Int32)]) (by (try simp only [List.length_append, List.length_cons, List.length_nil]) <;> omega) (125 : Int32) (by decide)) (wd hw 107 rfl) (wd hw 108 rfl) (wd hw 110 rfl) (wd hw 109 rfl) (own_nf X (wd hw 110 rfl)) (wd hw 38 rfl) (wd hw 111 rfl) pd_y_16 rfl (st := []) rfl rfl (G := [(g, ar "[Ljava/lang/String;" (.object "java/lang/String") [.ref q0, .ref q1]), (q0, ro ts0 (o_String (.ref b0) (.int 0))), (b0, ro tb0 (ar D0 .byte (mm0.map own_by))), (q1, ro ts1 (o_String (.ref b1) (.int 0))), (b1, ro tb1 (ar D1 .byte (mm1.map own_by)))]) rfl rfl ?_
  rintro _ _ ⟨rfl, rfl⟩
  refine ⟨Or.inl rfl, ?_⟩
  refine Goes.sub [0, 1, 2, 3, 4, 5, 6] (G := [(a19, o_SB (.ref v22) (.int 0) (.int (Int32.ofNat ((((((([123] : List Int32) ++ ([34] : List Int32)) ++ mm0) ++ ([34, 58, 34] : List Int32)) ++ mm1) ++ [(34 : Int32)]) ++ [(125 : Int32)]).length))), (v22, oBs (own_pad ((((((([123] : List Int32) ++ ([34] : List Int32)) ++ mm0) ++ ([34, 58, 34] : List Int32)) ++ mm1) ++ [(34 : Int32)]) ++ [(125 : Int32)]))), (g, ar "[Ljava/lang/String;" (.object "java/lang/String") [.ref q0, .ref q1]), (q0, ro ts0 (o_String (.ref b0) (.int 0))), (b0, ro tb0 (ar D0 .byte (mm0.map own_by))), (q1, ro ts1 (o_String (.ref b1) (.int 0))), (b1, ro tb1 (ar D1 .byte (mm1.map own_by)))]) rfl ?_
  show Goes _ _ _ _ _ _ _ _ _ _ _ _ _ _ _ _ _ _ _ _ [(a19, o_SB (.ref v22) (.int 0) (.int (Int32.ofNat ((((((([123] : List Int32) ++ ([34] : List Int32)) ++ mm0) ++ ([34, 58, 34] : List Int32)) ++ mm1) ++ [(34 : Int32)]) ++ [(125 : Int32)]).length))), (v22, oBs (own_pad ((((((([123] : List Int32) ++ ([34] : List Int32)) ++ mm0) ++ ([34, 58, 34] : List Int32)) ++ mm1) ++ [(34 : Int32)]) ++ [(125 : Int32)]))), (g, ar "[Ljava/lang/String;" (.object "java/lang/String") [.ref q0, .ref q1]), (q0, ro ts0 (o_String (.ref b0) (.int 0))), (b0, ro tb0 (ar D0 .byte (mm0.map own_by))), (q1, ro ts1 (o_String (.ref b1) (.int 0))), (b1, ro tb1 (ar D1 .byte (mm1.map own_by)))] 8 53 (mkF m 72 #[.val (.ref g), .val (.ref a19), .val (.int (2 : Int32))] [.ref a19])
  refine Goes.callV X 0 0 [0, 1] [2, 3, 4, 5, 6] rfl (D_tos l Z a0 h0 hw cs hCS hcs a19 v22 ((((((([123] : List Int32) ++ ([34] : List Int32)) ++ mm0) ++ ([34, 58, 34] : List Int32)) ++ mm1) ++ [(34 : Int32)]) ++ [(125 : Int32)]) (by (try simp only [List.length_append, List.length_cons, List.length_nil]) <;> omega)) (wd hw 122 rfl) (wd hw 123 rfl) (wd hw 125 rfl) (wd hw 124 rfl) (own_nf X (wd hw 125 rfl)) (wd hw 38 rfl) (wd hw 126 rfl) pd_y_19 rfl (st := []) rfl rfl (G := [(g, ar "[Ljava/lang/String;" (.object "java/lang/String") [.ref q0, .ref q1]), (q0, ro ts0 (o_String (.ref b0) (.int 0))), (b0, ro tb0 (ar D0 .byte (mm0.map own_by))), (q1, ro ts1 (o_String (.ref b1) (.int 0))), (b1, ro tb1 (ar D1 .byte (mm1.map own_by)))]) rfl rfl ?_
  rintro _ _ ⟨r27, t28, rfl, rfl⟩
  refine ⟨Or.inl rfl, ?_⟩
  have eJ : ((((((([123] : List Int32) ++ ([34] : List Int32)) ++ mm0) ++ ([34, 58, 34] : List Int32)) ++ mm1) ++ [(34 : Int32)]) ++ [(125 : Int32)]) = (own_js1 mm0 mm1) := by simp only [own_js0, own_js1, own_js2, own_pr, List.append_assoc, List.cons_append, List.nil_append]
  refine Goes.sub [0, 1] (G := [(r27, o_String (.ref t28) (.int 0)), (t28, oBs (((((((([123] : List Int32) ++ ([34] : List Int32)) ++ mm0) ++ ([34, 58, 34] : List Int32)) ++ mm1) ++ [(34 : Int32)]) ++ [(125 : Int32)]).map own_by))]) rfl ?_
  show Goes _ _ _ _ _ _ _ _ _ _ _ _ _ _ _ _ _ _ _ _ [(r27, o_String (.ref t28) (.int 0)), (t28, oBs (((((((([123] : List Int32) ++ ([34] : List Int32)) ++ mm0) ++ ([34, 58, 34] : List Int32)) ++ mm1) ++ [(34 : Int32)]) ++ [(125 : Int32)]).map own_by))] 10 74 (mkF m 75 #[.val (.ref g), .val (.ref a19), .val (.int (2 : Int32))] [.ref r27])
  rw [eJ]
  show Goes _ _ _ _ _ _ _ _ _ _ _ _ _ _ _ _ _ _ _ _ [(r27, o_String (.ref t28) (.int 0)), (t28, oBs ((own_js1 mm0 mm1).map own_by))] 10 74 (mkF m 75 #[.val (.ref g), .val (.ref a19), .val (.int (2 : Int32))] [.ref r27])
  refine Goes.retA X rfl rfl rfl ?_
  exact ⟨r27, t28, rfl, rfl⟩
set_option maxRecDepth 65536 in
set_option maxHeartbeats 40000000 in
theorem D_json2 (l : Launch) (Z : State) (a0 : Array Value) (h0 : Heap) (hw : ∀ d ∈ tables_1, d.before a0 Z = true) (cs : Int32) (hCS : Sta Z h0 "java/lang/String" "COMPACT_STRINGS" "Z" (.int cs)) (hcs : ¬ cs = 0) (g : Addr) (q0 b0 : Addr) (ts0 tb0 : Nat) (D0 : String) (mm0 : List Int32) (hm0 : mm0.length ≤ 1) (q1 b1 : Addr) (ts1 tb1 : Nat) (D1 : String) (mm1 : List Int32) (hm1 : mm1.length ≤ 1) (q2 b2 : Addr) (ts2 tb2 : Nat) (D2 : String) (mm2 : List Int32) (hm2 : mm2.length ≤ 1) (q3 b3 : Addr) (ts3 tb3 : Nat) (D3 : String) (mm3 : List Int32) (hm3 : mm3.length ≤ 1) : DoesW l Z a0 own_EL h0 y_4 prog_27_method_4_code 3 (some (.object "java/lang/String")) ({ frames := 8, cells := 14, slots := 102, locals := 139 } : Room) #[.ref g] [(g, ar "[Ljava/lang/String;" (.object "java/lang/String") [.ref q0, .ref q1, .ref q2, .ref q3]), (q0, ro ts0 (o_String (.ref b0) (.int 0))), (b0, ro tb0 (ar D0 .byte (mm0.map own_by))), (q1, ro ts1 (o_String (.ref b1) (.int 0))), (b1, ro tb1 (ar D1 .byte (mm1.map own_by))), (q2, ro ts2 (o_String (.ref b2) (.int 0))), (b2, ro tb2 (ar D2 .byte (mm2.map own_by))), (q3, ro ts3 (o_String (.ref b3) (.int 0))), (b3, ro tb3 (ar D3 .byte (mm3.map own_by)))] (fun r F => ∃ r' t, r = some (.ref r') ∧ F = [(r', o_String (.ref t) (.int 0)), (t, oBs ((own_js2 mm0 mm1 mm2 mm3).map own_by))]) := by
  refine DoesW.mk #[.val (.ref g), .unset, .unset] (plainFor_of_name (by decide +kernel)) (fun m => by first | (simp [entryFrame, mkF, argsToLocals, Value.category]; done) | rfl) ?_
  intro p e s0 vmS vm0 k0 m args below meth c h X
  show Goes _ _ _ _ _ _ _ _ _ _ _ _ _ _ _ _ _ _ _ _ [(g, ar "[Ljava/lang/String;" (.object "java/lang/String") [.ref q0, .ref q1, .ref q2, .ref q3]), (q0, ro ts0 (o_String (.ref b0) (.int 0))), (b0, ro tb0 (ar D0 .byte (mm0.map own_by))), (q1, ro ts1 (o_String (.ref b1) (.int 0))), (b1, ro tb1 (ar D1 .byte (mm1.map own_by))), (q2, ro ts2 (o_String (.ref b2) (.int 0))), (b2, ro tb2 (ar D2 .byte (mm2.map own_by))), (q3, ro ts3 (o_String (.ref b3) (.int 0))), (b3, ro tb3 (ar D3 .byte (mm3.map own_by)))] 0 0 (mkF m 0 #[.val (.ref g), .unset, .unset] [])
  refine Goes.new X _ (wd hw 36 rfl) (wd hw 37 rfl) (wd hw 38 rfl) (new_SB hw) (fun a29 => ?_)
  refine Goes.runS X [(.dup, 1)] (S' := [.ref a29, .ref a29]) (pc' := 4) rfl ?_
  refine Goes.ldcR X 4 (([123] : List Int32).map own_by) 1 (wd hw 39 rfl) (own_wS hw) (by decide) (own_Lv hw) (own_Lc hw) own_u66 (by decide) (by decide) (by decide) (fun a30 b31 vm0 k0 X => ?_)
  show Goes _ _ _ _ _ _ _ _ _ _ _ _ _ _ _ _ _ _ _ _ [(g, ar "[Ljava/lang/String;" (.object "java/lang/String") [.ref q0, .ref q1, .ref q2, .ref q3]), (q0, ro ts0 (o_String (.ref b0) (.int 0))), (b0, ro tb0 (ar D0 .byte (mm0.map own_by))), (q1, ro ts1 (o_String (.ref b1) (.int 0))), (b1, ro tb1 (ar D1 .byte (mm1.map own_by))), (q2, ro ts2 (o_String (.ref b2) (.int 0))), (b2, ro tb2 (ar D2 .byte (mm2.map own_by))), (q3, ro ts3 (o_String (.ref b3) (.int 0))), (b3, ro tb3 (ar D3 .byte (mm3.map own_by))), (a29, o_SB .null (.int 0) (.int 0)), (a30, ro 2 (o_String (.ref b31) (.int 0))), (b31, ro 2 (ar "" .byte (([123] : List Int32).map own_by)))] 3 12 (mkF m 6 #[.val (.ref g), .unset, .unset] [.ref a30, .ref a29, .ref a29])
  refine Goes.callN X 1 [9, 10, 11] [0, 1, 2, 3, 4, 5, 6, 7, 8] (D_sbi l Z a0 h0 hw cs hCS hcs a29 a30 b31 2 2 "" 123) rfl (wd hw 40 rfl) (wd hw 41 rfl) (wd hw 38 rfl) (wd hw 42 rfl) pd_y_5 rfl (st := [.ref a29]) rfl rfl (G := [(g, ar "[Ljava/lang/String;" (.object "java/lang/String") [.ref q0, .ref q1, .ref q2, .ref q3]), (q0, ro ts0 (o_String (.ref b0) (.int 0))), (b0, ro tb0 (ar D0 .byte (mm0.map own_by))), (q1, ro ts1 (o_String (.ref b1) (.int 0))), (b1, ro tb1 (ar D1 .byte (mm1.map own_by))), (q2, ro ts2 (o_String (.ref b2) (.int 0))), (b2, ro tb2 (ar D2 .byte (mm2.map own_by))), (q3, ro ts3 (o_String (.ref b3) (.int 0))), (b3, ro tb3 (ar D3 .byte (mm3.map own_by)))]) rfl rfl ?_
  rintro _ _ ⟨v32, rfl, rfl⟩
  refine ⟨Or.inr (Or.inr (by simp)), ?_⟩
  refine Goes.sub [0, 1, 4, 5, 6, 7, 8, 9, 10, 11, 12] (G := [(a29, o_SB (.ref v32) (.int 0) (.int (Int32.ofNat ([123] : List Int32).length))), (v32, oBs (own_pad ([123] : List Int32))), (g, ar "[Ljava/lang/String;" (.object "java/lang/String") [.ref q0, .ref q1, .ref q2, .ref q3]), (q0, ro ts0 (o_String (.ref b0) (.int 0))), (b0, ro tb0 (ar D0 .byte (mm0.map own_by))), (q1, ro ts1 (o_String (.ref b1) (.int 0))), (b1, ro tb1 (ar D1 .byte (mm1.map own_by))), (q2, ro ts2 (o_String (.ref b2) (.int 0))), (b2, ro tb2 (ar D2 .byte (mm2.map own_by))), (q3, ro ts3 (o_String (.ref b3) (.int 0))), (b3, ro tb3 (ar D3 .byte (mm3.map own_by)))]) rfl ?_
  show Goes _ _ _ _ _ _ _ _ _ _ _ _ _ _ _ _ _ _ _ _ [(a29, o_SB (.ref v32) (.int 0) (.int (Int32.ofNat ([123] : List Int32).length))), (v32, oBs (own_pad ([123] : List Int32))), (g, ar "[Ljava/lang/String;" (.object "java/lang/String") [.ref q0, .ref q1, .ref q2, .ref q3]), (q0, ro ts0 (o_String (.ref b0) (.int 0))), (b0, ro tb0 (ar D0 .byte (mm0.map own_by))), (q1, ro ts1 (o_String (.ref b1) (.int 0))), (b1, ro tb1 (ar D1 .byte (mm1.map own_by))), (q2, ro ts2 (o_String (.ref b2) (.int 0))), (b2, ro tb2 (ar D2 .byte (mm2.map own_by))), (q3, ro ts3 (o_String (.ref b3) (.int 0))), (b3, ro tb3 (ar D3 .byte (mm3.map own_by)))] 4 29 (mkF m 9 #[.val (.ref g), .unset, .unset] [.ref a29])
  refine Goes.run X [(.astore_n 1, 1), (.iconst 0, 1), (.istore_n 2, 1), (.iload_n 2, 1), (.aload_n 0, 1)] (L' := #[.val (.ref g), .val (.ref a29), .val (.int (0 : Int32))]) (S' := [.ref g, .int (0 : Int32)]) (pc' := 14) rfl ?_
  refine Goes.alen X 2 (n := 4) rfl rfl ?_
  refine Goes.if2 X (pc' := 66) (o := 51) (cd := .ge) (fun q => absurd q (by decide)) (fun _ => ?_)
  refine Goes.runS X [(.aload_n 1, 1), (.iload_n 2, 1)] (S' := [.int (0 : Int32), .ref a29]) (pc' := 20) rfl ?_
  refine Goes.if1 X (pc' := 28) (o := 8) (cd := .ne) (fun q => absurd q (by decide)) (fun _ => ?_)
  refine Goes.ldcR X 4 (([34] : List Int32).map own_by) 1 (wd hw 193 rfl) (own_wS hw) (by decide) (own_Lv hw) (own_Lc hw) own_u71 (by decide) (by decide) (by decide) (fun a33 b34 vm0 k0 X => ?_)
  show Goes _ _ _ _ _ _ _ _ _ _ _ _ _ _ _ _ _ _ _ _ [(a29, o_SB (.ref v32) (.int 0) (.int (Int32.ofNat ([123] : List Int32).length))), (v32, oBs (own_pad ([123] : List Int32))), (g, ar "[Ljava/lang/String;" (.object "java/lang/String") [.ref q0, .ref q1, .ref q2, .ref q3]), (q0, ro ts0 (o_String (.ref b0) (.int 0))), (b0, ro tb0 (ar D0 .byte (mm0.map own_by))), (q1, ro ts1 (o_String (.ref b1) (.int 0))), (b1, ro tb1 (ar D1 .byte (mm1.map own_by))), (q2, ro ts2 (o_String (.ref b2) (.int 0))), (b2, ro tb2 (ar D2 .byte (mm2.map own_by))), (q3, ro ts3 (o_String (.ref b3) (.int 0))), (b3, ro tb3 (ar D3 .byte (mm3.map own_by))), (a33, ro 2 (o_String (.ref b34) (.int 0))), (b34, ro 2 (ar "" .byte (([34] : List Int32).map own_by)))] 6 37 (mkF m 25 #[.val (.ref g), .val (.ref a29), .val (.int (0 : Int32))] [.ref a33, .ref a29])
  refine Goes.goto X (o := 5) (pc' := 30) ?_
  refine Goes.callV X 0 0 [0, 1, 11, 12] [2, 3, 4, 5, 6, 7, 8, 9, 10] rfl (D_sap l Z a0 h0 hw cs hCS hcs a29 v32 a33 b34 2 2 "" ([34] : List Int32) ([123] : List Int32) (by (try simp only [List.length_append, List.length_cons, List.length_nil]) <;> omega)) (wd hw 194 rfl) (wd hw 73 rfl) (wd hw 75 rfl) (wd hw 74 rfl) (own_nf X (wd hw 75 rfl)) (wd hw 38 rfl) (wd hw 76 rfl) pd_y_10 rfl (st := []) rfl rfl (G := [(g, ar "[Ljava/lang/String;" (.object "java/lang/String") [.ref q0, .ref q1, .ref q2, .ref q3]), (q0, ro ts0 (o_String (.ref b0) (.int 0))), (b0, ro tb0 (ar D0 .byte (mm0.map own_by))), (q1, ro ts1 (o_String (.ref b1) (.int 0))), (b1, ro tb1 (ar D1 .byte (mm1.map own_by))), (q2, ro ts2 (o_String (.ref b2) (.int 0))), (b2, ro tb2 (ar D2 .byte (mm2.map own_by))), (q3, ro ts3 (o_String (.ref b3) (.int 0))), (b3, ro tb3 (ar D3 .byte (mm3.map own_by)))]) rfl rfl ?_
  rintro _ _ ⟨rfl, rfl⟩
  refine ⟨Or.inr (Or.inr (by simp)), ?_⟩
  refine Goes.sub [0, 1, 4, 5, 6, 7, 8, 9, 10, 11, 12] (G := [(a29, o_SB (.ref v32) (.int 0) (.int (Int32.ofNat (([123] : List Int32) ++ ([34] : List Int32)).length))), (v32, oBs (own_pad (([123] : List Int32) ++ ([34] : List Int32)))), (g, ar "[Ljava/lang/String;" (.object "java/lang/String") [.ref q0, .ref q1, .ref q2, .ref q3]), (q0, ro ts0 (o_String (.ref b0) (.int 0))), (b0, ro tb0 (ar D0 .byte (mm0.map own_by))), (q1, ro ts1 (o_String (.ref b1) (.int 0))), (b1, ro tb1 (ar D1 .byte (mm1.map own_by))), (q2, ro ts2 (o_String (.ref b2) (.int 0))), (b2, ro tb2 (ar D2 .byte (mm2.map own_by))), (q3, ro ts3 (o_String (.ref b3) (.int 0))), (b3, ro tb3 (ar D3 .byte (mm3.map own_by)))]) rfl ?_
  show Goes _ _ _ _ _ _ _ _ _ _ _ _ _ _ _ _ _ _ _ _ [(a29, o_SB (.ref v32) (.int 0) (.int (Int32.ofNat (([123] : List Int32) ++ ([34] : List Int32)).length))), (v32, oBs (own_pad (([123] : List Int32) ++ ([34] : List Int32)))), (g, ar "[Ljava/lang/String;" (.object "java/lang/String") [.ref q0, .ref q1, .ref q2, .ref q3]), (q0, ro ts0 (o_String (.ref b0) (.int 0))), (b0, ro tb0 (ar D0 .byte (mm0.map own_by))), (q1, ro ts1 (o_String (.ref b1) (.int 0))), (b1, ro tb1 (ar D1 .byte (mm1.map own_by))), (q2, ro ts2 (o_String (.ref b2) (.int 0))), (b2, ro tb2 (ar D2 .byte (mm2.map own_by))), (q3, ro ts3 (o_String (.ref b3) (.int 0))), (b3, ro tb3 (ar D3 .byte (mm3.map own_by)))] 6 37 (mkF m 33 #[.val (.ref g), .val (.ref a29), .val (.int (0 : Int32))] [.ref a29])
  refine Goes.runS X [(.aload_n 0, 1), (.iload_n 2, 1)] (S' := [.int (0 : Int32), .ref g, .ref a29]) (pc' := 35) rfl ?_
  refine Goes.aaload X 2 0 rfl rfl (by decide) (by decide) rfl ?_
  refine Goes.callV X 0 0 [0, 1, 3, 4] [2, 5, 6, 7, 8, 9, 10] rfl (D_sap l Z a0 h0 hw cs hCS hcs a29 v32 q0 b0 ts0 tb0 D0 mm0 (([123] : List Int32) ++ ([34] : List Int32)) (by (try simp only [List.length_append, List.length_cons, List.length_nil]) <;> omega)) (wd hw 194 rfl) (wd hw 73 rfl) (wd hw 75 rfl) (wd hw 74 rfl) (own_nf X (wd hw 75 rfl)) (wd hw 38 rfl) (wd hw 76 rfl) pd_y_10 rfl (st := []) rfl rfl (G := [(g, ar "[Ljava/lang/String;" (.object "java/lang/String") [.ref q0, .ref q1, .ref q2, .ref q3]), (q1, ro ts1 (o_String (.ref b1) (.int 0))), (b1, ro tb1 (ar D1 .byte (mm1.map own_by))), (q2, ro ts2 (o_String (.ref b2) (.int 0))), (b2, ro tb2 (ar D2 .byte (mm2.map own_by))), (q3, ro ts3 (o_String (.ref b3) (.int 0))), (b3, ro tb3 (ar D3 .byte (mm3.map own_by)))]) rfl rfl ?_
  rintro _ _ ⟨rfl, rfl⟩
  refine ⟨Or.inr (Or.inr (by simp)), ?_⟩
  refine Goes.sub [0, 1, 4, 2, 3, 5, 6, 7, 8, 9, 10] (G := [(a29, o_SB (.ref v32) (.int 0) (.int (Int32.ofNat ((([123] : List Int32) ++ ([34] : List Int32)) ++ mm0).length))), (v32, oBs (own_pad ((([123] : List Int32) ++ ([34] : List Int32)) ++ mm0))), (g, ar "[Ljava/lang/String;" (.object "java/lang/String") [.ref q0, .ref q1, .ref q2, .ref q3]), (q0, ro ts0 (o_String (.ref b0) (.int 0))), (b0, ro tb0 (ar D0 .byte (mm0.map own_by))), (q1, ro ts1 (o_String (.ref b1) (.int 0))), (b1, ro tb1 (ar D1 .byte (mm1.map own_by))), (q2, ro ts2 (o_String (.ref b2) (.int 0))), (b2, ro tb2 (ar D2 .byte (mm2.map own_by))), (q3, ro ts3 (o_String (.ref b3) (.int 0))), (b3, ro tb3 (ar D3 .byte (mm3.map own_by)))]) rfl ?_
  show Goes _ _ _ _ _ _ _ _ _ _ _ _ _ _ _ _ _ _ _ _ [(a29, o_SB (.ref v32) (.int 0) (.int (Int32.ofNat ((([123] : List Int32) ++ ([34] : List Int32)) ++ mm0).length))), (v32, oBs (own_pad ((([123] : List Int32) ++ ([34] : List Int32)) ++ mm0))), (g, ar "[Ljava/lang/String;" (.object "java/lang/String") [.ref q0, .ref q1, .ref q2, .ref q3]), (q0, ro ts0 (o_String (.ref b0) (.int 0))), (b0, ro tb0 (ar D0 .byte (mm0.map own_by))), (q1, ro ts1 (o_String (.ref b1) (.int 0))), (b1, ro tb1 (ar D1 .byte (mm1.map own_by))), (q2, ro ts2 (o_String (.ref b2) (.int 0))), (b2, ro tb2 (ar D2 .byte (mm2.map own_by))), (q3, ro ts3 (o_String (.ref b3) (.int 0))), (b3, ro tb3 (ar D3 .byte (mm3.map own_by)))] 6 37 (mkF m 39 #[.val (.ref g), .val (.ref a29), .val (.int (0 : Int32))] [.ref a29])
  refine Goes.ldcR X 12 (([34, 58, 34] : List Int32).map own_by) 3 (wd hw 195 rfl) (own_wS hw) (by decide) (own_Lv hw) (own_Lc hw) own_u79 (by decide) (by decide) (by decide) (fun a35 b36 vm0 k0 X => ?_)
  show Goes _ _ _ _ _ _ _ _ _ _ _ _ _ _ _ _ _ _ _ _ [(a29, o_SB (.ref v32) (.int 0) (.int (Int32.ofNat ((([123] : List Int32) ++ ([34] : List Int32)) ++ mm0).length))), (v32, oBs (own_pad ((([123] : List Int32) ++ ([34] : List Int32)) ++ mm0))), (g, ar "[Ljava/lang/String;" (.object "java/lang/String") [.ref q0, .ref q1, .ref q2, .ref q3]), (q0, ro ts0 (o_String (.ref b0) (.int 0))), (b0, ro tb0 (ar D0 .byte (mm0.map own_by))), (q1, ro ts1 (o_String (.ref b1) (.int 0))), (b1, ro tb1 (ar D1 .byte (mm1.map own_by))), (q2, ro ts2 (o_String (.ref b2) (.int 0))), (b2, ro tb2 (ar D2 .byte (mm2.map own_by))), (q3, ro ts3 (o_String (.ref b3) (.int 0))), (b3, ro tb3 (ar D3 .byte (mm3.map own_by))), (a35, ro 2 (o_String (.ref b36) (.int 0))), (b36, ro 2 (ar "" .byte (([34, 58, 34] : List Int32).map own_by)))] 8 53 (mkF m 41 #[.val (.ref g), .val (.ref a29), .val (.int (0 : Int32))] [.ref a35, .ref a29])
  refine Goes.callV X 0 0 [0, 1, 11, 12] [2, 3, 4, 5, 6, 7, 8, 9, 10] rfl (D_sap l Z a0 h0 hw cs hCS hcs a29 v32 a35 b36 2 2 "" ([34, 58, 34] : List Int32) ((([123] : List Int32) ++ ([34] : List Int32)) ++ mm0) (by (try simp only [List.length_append, List.length_cons, List.length_nil]) <;> omega)) (wd hw 194 rfl) (wd hw 73 rfl) (wd hw 75 rfl) (wd hw 74 rfl) (own_nf X (wd hw 75 rfl)) (wd hw 38 rfl) (wd hw 76 rfl) pd_y_10 rfl (st := []) rfl rfl (G := [(g, ar "[Ljava/lang/String;" (.object "java/lang/String") [.ref q0, .ref q1, .ref q2, .ref q3]), (q0, ro ts0 (o_String (.ref b0) (.int 0))), (b0, ro tb0 (ar D0 .byte (mm0.map own_by))), (q1, ro ts1 (o_String (.ref b1) (.int 0))), (b1, ro tb1 (ar D1 .byte (mm1.map own_by))), (q2, ro ts2 (o_String (.ref b2) (.int 0))), (b2, ro tb2 (ar D2 .byte (mm2.map own_by))), (q3, ro ts3 (o_String (.ref b3) (.int 0))), (b3, ro tb3 (ar D3 .byte (mm3.map own_by)))]) rfl rfl ?_
  rintro _ _ ⟨rfl, rfl⟩
  refine ⟨Or.inr (Or.inr (by simp)), ?_⟩
  refine Goes.sub [0, 1, 4, 5, 6, 7, 8, 9, 10, 11, 12] (G := [(a29, o_SB (.ref v32) (.int 0) (.int (Int32.ofNat (((([123] : List Int32) ++ ([34] : List Int32)) ++ mm0) ++ ([34, 58, 34] : List Int32)).length))), (v32, oBs (own_pad (((([123] : List Int32) ++ ([34] : List Int32)) ++ mm0) ++ ([34, 58, 34] : List Int32)))), (g, ar "[Ljava/lang/String;" (.object "java/lang/String") [.ref q0, .ref q1, .ref q2, .ref q3]), (q0, ro ts0 (o_String (.ref b0) (.int 0))), (b0, ro tb0 (ar D0 .byte (mm0.map own_by))), (q1, ro ts1 (o_String (.ref b1) (.int 0))), (b1, ro tb1 (ar D1 .byte (mm1.map own_by))), (q2, ro ts2 (o_String (.ref b2) (.int 0))), (b2, ro tb2 (ar D2 .byte (mm2.map own_by))), (q3, ro ts3 (o_String (.ref b3) (.int 0))), (b3, ro tb3 (ar D3 .byte (mm3.map own_by)))]) rfl ?_
  show Goes _ _ _ _ _ _ _ _ _ _ _ _ _ _ _ _ _ _ _ _ [(a29, o_SB (.ref v32) (.int 0) (.int (Int32.ofNat (((([123] : List Int32) ++ ([34] : List Int32)) ++ mm0) ++ ([34, 58, 34] : List Int32)).length))), (v32, oBs (own_pad (((([123] : List Int32) ++ ([34] : List Int32)) ++ mm0) ++ ([34, 58, 34] : List Int32)))), (g, ar "[Ljava/lang/String;" (.object "java/lang/String") [.ref q0, .ref q1, .ref q2, .ref q3]), (q0, ro ts0 (o_String (.ref b0) (.int 0))), (b0, ro tb0 (ar D0 .byte (mm0.map own_by))), (q1, ro ts1 (o_String (.ref b1) (.int 0))), (b1, ro tb1 (ar D1 .byte (mm1.map own_by))), (q2, ro ts2 (o_String (.ref b2) (.int 0))), (b2, ro tb2 (ar D2 .byte (mm2.map own_by))), (q3, ro ts3 (o_String (.ref b3) (.int 0))), (b3, ro tb3 (ar D3 .byte (mm3.map own_by)))] 8 53 (mkF m 44 #[.val (.ref g), .val (.ref a29), .val (.int (0 : Int32))] [.ref a29])
  refine Goes.runS X [(.pop, 1), (.aload_n 1, 1), (.aload_n 0, 1), (.iload_n 2, 1), (.iconst 1, 1), (.iadd, 1)] (S' := [.int (1 : Int32), .ref g, .ref a29]) (pc' := 50) rfl ?_
  refine Goes.aaload X 2 1 rfl rfl (by decide) (by decide) rfl ?_
  refine Goes.callV X 0 0 [0, 1, 5, 6] [2, 3, 4, 7, 8, 9, 10] rfl (D_sap l Z a0 h0 hw cs hCS hcs a29 v32 q1 b1 ts1 tb1 D1 mm1 (((([123] : List Int32) ++ ([34] : List Int32)) ++ mm0) ++ ([34, 58, 34] : List Int32)) (by (try simp only [List.length_append, List.length_cons, List.length_nil]) <;> omega)) (wd hw 194 rfl) (wd hw 73 rfl) (wd hw 75 rfl) (wd hw 74 rfl) (own_nf X (wd hw 75 rfl)) (wd hw 38 rfl) (wd hw 76 rfl) pd_y_10 rfl (st := []) rfl rfl (G := [(g, ar "[Ljava/lang/String;" (.object "java/lang/String") [.ref q0, .ref q1, .ref q2, .ref q3]), (q0, ro ts0 (o_String (.ref b0) (.int 0))), (b0, ro tb0 (ar D0 .byte (mm0.map own_by))), (q2, ro ts2 (o_String (.ref b2) (.int 0))), (b2, ro tb2 (ar D2 .byte (mm2.map own_by))), (q3, ro ts3 (o_String (.ref b3) (.int 0))), (b3, ro tb3 (ar D3 .byte (mm3.map own_by)))]) rfl rfl ?_
  rintro _ _ ⟨rfl, rfl⟩
  refine ⟨Or.inr (Or.inr (by simp)), ?_⟩
  refine Goes.sub [0, 1, 4, 5, 6, 2, 3, 7, 8, 9, 10] (G := [(a29, o_SB (.ref v32) (.int 0) (.int (Int32.ofNat ((((([123] : List Int32) ++ ([34] : List Int32)) ++ mm0) ++ ([34, 58, 34] : List Int32)) ++ mm1).length))), (v32, oBs (own_pad ((((([123] : List Int32) ++ ([34] : List Int32)) ++ mm0) ++ ([34, 58, 34] : List Int32)) ++ mm1))), (g, ar "[Ljava/lang/String;" (.object "java/lang/String") [.ref q0, .ref q1, .ref q2, .ref q3]), (q0, ro ts0 (o_String (.ref b0) (.int 0))), (b0, ro tb0 (ar D0 .byte (mm0.map own_by))), (q1, ro ts1 (o_String (.ref b1) (.int 0))), (b1, ro tb1 (ar D1 .byte (mm1.map own_by))), (q2, ro ts2 (o_String (.ref b2) (.int 0))), (b2, ro tb2 (ar D2 .byte (mm2.map own_by))), (q3, ro ts3 (o_String (.ref b3) (.int 0))), (b3, ro tb3 (ar D3 .byte (mm3.map own_by)))]) rfl ?_
  show Goes _ _ _ _ _ _ _ _ _ _ _ _ _ _ _ _ _ _ _ _ [(a29, o_SB (.ref v32) (.int 0) (.int (Int32.ofNat ((((([123] : List Int32) ++ ([34] : List Int32)) ++ mm0) ++ ([34, 58, 34] : List Int32)) ++ mm1).length))), (v32, oBs (own_pad ((((([123] : List Int32) ++ ([34] : List Int32)) ++ mm0) ++ ([34, 58, 34] : List Int32)) ++ mm1))), (g, ar "[Ljava/lang/String;" (.object "java/lang/String") [.ref q0, .ref q1, .ref q2, .ref q3]), (q0, ro ts0 (o_String (.ref b0) (.int 0))), (b0, ro tb0 (ar D0 .byte (mm0.map own_by))), (q1, ro ts1 (o_String (.ref b1) (.int 0))), (b1, ro tb1 (ar D1 .byte (mm1.map own_by))), (q2, ro ts2 (o_String (.ref b2) (.int 0))), (b2, ro tb2 (ar D2 .byte (mm2.map own_by))), (q3, ro ts3 (o_String (.ref b3) (.int 0))), (b3, ro tb3 (ar D3 .byte (mm3.map own_by)))] 8 53 (mkF m 54 #[.val (.ref g), .val (.ref a29), .val (.int (0 : Int32))] [.ref a29])
  refine Goes.runS X [(.bipush 34, 2)] (S' := [.int (34 : Int32), .ref a29]) (pc' := 56) rfl ?_
  refine Goes.callV X 0 0 [0, 1] [2, 3, 4, 5, 6, 7, 8, 9, 10] rfl (D_scc l Z a0 h0 hw cs hCS hcs a29 v32 ((((([123] : List Int32) ++ ([34] : List Int32)) ++ mm0) ++ ([34, 58, 34] : List Int32)) ++ mm1) (by (try simp only [List.length_append, List.length_cons, List.length_nil]) <;> omega) (34 : Int32) (by decide)) (wd hw 107 rfl) (wd hw 108 rfl) (wd hw 110 rfl) (wd hw 109 rfl) (own_nf X (wd hw 110 rfl)) (wd hw 38 rfl) (wd hw 111 rfl) pd_y_16 rfl (st := []) rfl rfl (G := [(g, ar "[Ljava/lang/String;" (.object "java/lang/String") [.ref q0, .ref q1, .ref q2, .ref q3]), (q0, ro ts0 (o_String (.ref b0) (.int 0))), (b0, ro tb0 (ar D0 .byte (mm0.map own_by))), (q1, ro ts1 (o_String (.ref b1) (.int 0))), (b1, ro tb1 (ar D1 .byte (mm1.map own_by))), (q2, ro ts2 (o_String (.ref b2) (.int 0))), (b2, ro tb2 (ar D2 .byte (mm2.map own_by))), (q3, ro ts3 (o_String (.ref b3) (.int 0))), (b3, ro tb3 (ar D3 .byte (mm3.map own_by)))]) rfl rfl ?_
  rintro _ _ ⟨rfl, rfl⟩
  refine ⟨Or.inl rfl, ?_⟩
  refine Goes.sub [0, 1, 2, 3, 4, 5, 6, 7, 8, 9, 10] (G := [(a29, o_SB (.ref v32) (.int 0) (.int (Int32.ofNat (((((([123] : List Int32) ++ ([34] : List Int32)) ++ mm0) ++ ([34, 58, 34] : List Int32)) ++ mm1) ++ [(34 : Int32)]).length))), (v32, oBs (own_pad (((((([123] : List Int32) ++ ([34] : List Int32)) ++ mm0) ++ ([34, 58, 34] : List Int32)) ++ mm1) ++ [(34 : Int32)]))), (g, ar "[Ljava/lang/String;" (.object "java/lang/String") [.ref q0, .ref q1, .ref q2, .ref q3]), (q0, ro ts0 (o_String (.ref b0) (.int 0))), (b0, ro tb0 (ar D0 .byte (mm0.map own_by))), (q1, ro ts1 (o_String (.ref b1) (.int 0))), (b1, ro tb1 (ar D1 .byte (mm1.map own_by))), (q2, ro ts2 (o_String (.ref b2) (.int 0))), (b2, ro tb2 (ar D2 .byte (mm2.map own_by))), (q3, ro ts3 (o_String (.ref b3) (.int 0))), (b3, ro tb3 (ar D3 .byte (mm3.map own_by)))]) rfl ?_
  show Goes _ _ _ _ _ _ _ _ _ _ _ _ _ _ _ _ _ _ _ _ [(a29, o_SB (.ref v32) (.int 0) (.int (Int32.ofNat (((((([123] : List Int32) ++ ([34] : List Int32)) ++ mm0) ++ ([34, 58, 34] : List Int32)) ++ mm1) ++ [(34 : Int32)]).length))), (v32, oBs (own_pad (((((([123] : List Int32) ++ ([34] : List Int32)) ++ mm0) ++ ([34, 58, 34] : List Int32)) ++ mm1) ++ [(34 : Int32)]))), (g, ar "[Ljava/lang/String;" (.object "java/lang/String") [.ref q0, .ref q1, .ref q2, .ref q3]), (q0, ro ts0 (o_String (.ref b0) (.int 0))), (b0, ro tb0 (ar D0 .byte (mm0.map own_by))), (q1, ro ts1 (o_String (.ref b1) (.int 0))), (b1, ro tb1 (ar D1 .byte (mm1.map own_by))), (q2, ro ts2 (o_String (.ref b2) (.int 0))), (b2, ro tb2 (ar D2 .byte (mm2.map own_by))), (q3, ro ts3 (o_String (.ref b3) (.int 0))), (b3, ro tb3 (ar D3 .byte (mm3.map own_by)))] 8 53 (mkF m 59 #[.val (.ref g), .val (.ref a29), .val (.int (0 : Int32))] [.ref a29])
  refine Goes.run X [(.pop, 1), (.iinc 2 2, 3)] (L' := #[.val (.ref g), .val (.ref a29), .val (.int (2 : Int32))]) (S' := []) (pc' := 63) rfl ?_
  refine Goes.goto X (o := (-51)) (pc' := 12) ?_
  refine Goes.runS X [(.iload_n 2, 1), (.aload_n 0, 1)] (S' := [.ref g, .int (2 : Int32)]) (pc' := 14) rfl ?_
  refine Goes.alen X 2 (n := 4) rfl rfl ?_
  refine Goes.if2 X (pc' := 66) (o := 51) (cd := .ge) (fun q => absurd q (by decide)) (fun _ => ?_)
  refine Goes.runS X [(.aload_n 1, 1), (.iload_n 2, 1)] (S' := [.int (2 : Int32), .ref a29]) (pc' := 20) rfl ?_
  refine Goes.if1 X (pc' := 28) (o := 8) (cd := .ne) (fun _ => ?_) (fun q => absurd q (by decide))
  refine Goes.ldcR X 8 (([44, 34] : List Int32).map own_by) 2 (wd hw 199 rfl) (own_wS hw) (by decide) (own_Lv hw) (own_Lc hw) own_u73 (by decide) (by decide) (by decide) (fun a37 b38 vm0 k0 X => ?_)
  show Goes _ _ _ _ _ _ _ _ _ _ _ _ _ _ _ _ _ _ _ _ [(a29, o_SB (.ref v32) (.int 0) (.int (Int32.ofNat (((((([123] : List Int32) ++ ([34] : List Int32)) ++ mm0) ++ ([34, 58, 34] : List Int32)) ++ mm1) ++ [(34 : Int32)]).length))), (v32, oBs (own_pad (((((([123] : List Int32) ++ ([34] : List Int32)) ++ mm0) ++ ([34, 58, 34] : List Int32)) ++ mm1) ++ [(34 : Int32)]))), (g, ar "[Ljava/lang/String;" (.object "java/lang/String") [.ref q0, .ref q1, .ref q2, .ref q3]), (q0, ro ts0 (o_String (.ref b0) (.int 0))), (b0, ro tb0 (ar D0 .byte (mm0.map own_by))), (q1, ro ts1 (o_String (.ref b1) (.int 0))), (b1, ro tb1 (ar D1 .byte (mm1.map own_by))), (q2, ro ts2 (o_String (.ref b2) (.int 0))), (b2, ro tb2 (ar D2 .byte (mm2.map own_by))), (q3, ro ts3 (o_String (.ref b3) (.int 0))), (b3, ro tb3 (ar D3 .byte (mm3.map own_by))), (a37, ro 2 (o_String (.ref b38) (.int 0))), (b38, ro 2 (ar "" .byte (([44, 34] : List Int32).map own_by)))] 10 65 (mkF m 30 #[.val (.ref g), .val (.ref a29), .val (.int (2 : Int32))] [.ref a37, .ref a29])
  refine Goes.callV X 0 0 [0, 1, 11, 12] [2, 3, 4, 5, 6, 7, 8, 9, 10] rfl (D_sap l Z a0 h0 hw cs hCS hcs a29 v32 a37 b38 2 2 "" ([44, 34] : List Int32) (((((([123] : List Int32) ++ ([34] : List Int32)) ++ mm0) ++ ([34, 58, 34] : List Int32)) ++ mm1) ++ [(34 : Int32)]) (by (try simp only [List.length_append, List.length_cons, List.length_nil]) <;> omega)) (wd hw 194 rfl) (wd hw 73 rfl) (wd hw 75 rfl) (wd hw 74 rfl) (own_nf X (wd hw 75 rfl)) (wd hw 38 rfl) (wd hw 76 rfl) pd_y_10 rfl (st := []) rfl rfl (G := [(g, ar "[Ljava/lang/String;" (.object "java/lang/String") [.ref q0, .ref q1, .ref q2, .ref q3]), (q0, ro ts0 (o_String (.ref b0) (.int 0))), (b0, ro tb0 (ar D0 .byte (mm0.map own_by))), (q1, ro ts1 (o_String (.ref b1) (.int 0))), (b1, ro tb1 (ar D1 .byte (mm1.map own_by))), (q2, ro ts2 (o_String (.ref b2) (.int 0))), (b2, ro tb2 (ar D2 .byte (mm2.map own_by))), (q3, ro ts3 (o_String (.ref b3) (.int 0))), (b3, ro tb3 (ar D3 .byte (mm3.map own_by)))]) rfl rfl ?_
  rintro _ _ ⟨rfl, rfl⟩
  refine ⟨Or.inr (Or.inr (by simp)), ?_⟩
  refine Goes.sub [0, 1, 4, 5, 6, 7, 8, 9, 10, 11, 12] (G := [(a29, o_SB (.ref v32) (.int 0) (.int (Int32.ofNat ((((((([123] : List Int32) ++ ([34] : List Int32)) ++ mm0) ++ ([34, 58, 34] : List Int32)) ++ mm1) ++ [(34 : Int32)]) ++ ([44, 34] : List Int32)).length))), (v32, oBs (own_pad ((((((([123] : List Int32) ++ ([34] : List Int32)) ++ mm0) ++ ([34, 58, 34] : List Int32)) ++ mm1) ++ [(34 : Int32)]) ++ ([44, 34] : List Int32)))), (g, ar "[Ljava/lang/String;" (.object "java/lang/String") [.ref q0, .ref q1, .ref q2, .ref q3]), (q0, ro ts0 (o_String (.ref b0) (.int 0))), (b0, ro tb0 (ar D0 .byte (mm0.map own_by))), (q1, ro ts1 (o_String (.ref b1) (.int 0))), (b1, ro tb1 (ar D1 .byte (mm1.map own_by))), (q2, ro ts2 (o_String (.ref b2) (.int 0))), (b2, ro tb2 (ar D2 .byte (mm2.map own_by))), (q3, ro ts3 (o_String (.ref b3) (.int 0))), (b3, ro tb3 (ar D3 .byte (mm3.map own_by)))]) rfl ?_
  show Goes _ _ _ _ _ _ _ _ _ _ _ _ _ _ _ _ _ _ _ _ [(a29, o_SB (.ref v32) (.int 0) (.int (Int32.ofNat ((((((([123] : List Int32) ++ ([34] : List Int32)) ++ mm0) ++ ([34, 58, 34] : List Int32)) ++ mm1) ++ [(34 : Int32)]) ++ ([44, 34] : List Int32)).length))), (v32, oBs (own_pad ((((((([123] : List Int32) ++ ([34] : List Int32)) ++ mm0) ++ ([34, 58, 34] : List Int32)) ++ mm1) ++ [(34 : Int32)]) ++ ([44, 34] : List Int32)))), (g, ar "[Ljava/lang/String;" (.object "java/lang/String") [.ref q0, .ref q1, .ref q2, .ref q3]), (q0, ro ts0 (o_String (.ref b0) (.int 0))), (b0, ro tb0 (ar D0 .byte (mm0.map own_by))), (q1, ro ts1 (o_String (.ref b1) (.int 0))), (b1, ro tb1 (ar D1 .byte (mm1.map own_by))), (q2, ro ts2 (o_String (.ref b2) (.int 0))), (b2, ro tb2 (ar D2 .byte (mm2.map own_by))), (q3, ro ts3 (o_String (.ref b3) (.int 0))), (b3, ro tb3 (ar D3 .byte (mm3.map own_by)))] 10 65 (mkF m 33 #[.val (.ref g), .val (.ref a29), .val (.int (2 : Int32))] [.ref a29])
  refine Goes.runS X [(.aload_n 0, 1), (.iload_n 2, 1)] (S' := [.int (2 : Int32), .ref g, .ref a29]) (pc' := 35) rfl ?_
  refine Goes.aaload X 2 2 rfl rfl (by decide) (by decide) rfl ?_
  refine Goes.callV X 0 0 [0, 1, 7, 8] [2, 3, 4, 5, 6, 9, 10] rfl (D_sap l Z a0 h0 hw cs hCS hcs a29 v32 q2 b2 ts2 tb2 D2 mm2 ((((((([123] : List Int32) ++ ([34] : List Int32)) ++ mm0) ++ ([34, 58, 34] : List Int32)) ++ mm1) ++ [(34 : Int32)]) ++ ([44, 34] : List Int32)) (by (try simp only [List.length_append, List.length_cons, List.length_nil]) <;> omega)) (wd hw 194 rfl) (wd hw 73 rfl) (wd hw 75 rfl) (wd hw 74 rfl) (own_nf X (wd hw 75 rfl)) (wd hw 38 rfl) (wd hw 76 rfl) pd_y_10 rfl (st := []) rfl rfl (G := [(g, ar "[Ljava/lang/String;" (.object "java/lang/String") [.ref q0, .ref q1, .ref q2, .ref q3]), (q0, ro ts0 (o_String (.ref b0) (.int 0))), (b0, ro tb0 (ar D0 .byte (mm0.map own_by))), (q1, ro ts1 (o_String (.ref b1) (.int 0))), (b1, ro tb1 (ar D1 .byte (mm1.map own_by))), (q3, ro ts3 (o_String (.ref b3) (.int 0))), (b3, ro tb3 (ar D3 .byte (mm3.map own_by)))]) rfl rfl ?_
  rintro _ _ ⟨rfl, rfl⟩
  refine ⟨Or.inr (Or.inr (by simp)), ?_⟩
  refine Goes.sub [0, 1, 4, 5, 6, 7, 8, 2, 3, 9, 10] (G := [(a29, o_SB (.ref v32) (.int 0) (.int (Int32.ofNat (((((((([123] : List Int32) ++ ([34] : List Int32)) ++ mm0) ++ ([34, 58, 34] : List Int32)) ++ mm1) ++ [(34 : Int32)]) ++ ([44, 34] : List Int32)) ++ mm2).length))), (v32, oBs (own_pad (((((((([123] : List Int32) ++ ([34] : List Int32)) ++ mm0) ++ ([34, 58, 34] : List Int32)) ++ mm1) ++ [(34 : Int32)]) ++ ([44, 34] : List Int32)) ++ mm2))), (g, ar "[Ljava/lang/String;" (.object "java/lang/String") [.ref q0, .ref q1, .ref q2, .ref q3]), (q0, ro ts0 (o_String (.ref b0) (.int 0))), (b0, ro tb0 (ar D0 .byte (mm0.map own_by))), (q1, ro ts1 (o_String (.ref b1) (.int 0))), (b1, ro tb1 (ar D1 .byte (mm1.map own_by))), (q2, ro ts2 (o_String (.ref b2) (.int 0))), (b2, ro tb2 (ar D2 .byte (mm2.map own_by))), (q3, ro ts3 (o_String (.ref b3) (.int 0))), (b3, ro tb3 (ar D3 .byte (mm3.map own_by)))]) rfl ?_
  show Goes _ _ _ _ _ _ _ _ _ _ _ _ _ _ _ _ _ _ _ _ [(a29, o_SB (.ref v32) (.int 0) (.int (Int32.ofNat (((((((([123] : List Int32) ++ ([34] : List Int32)) ++ mm0) ++ ([34, 58, 34] : List Int32)) ++ mm1) ++ [(34 : Int32)]) ++ ([44, 34] : List Int32)) ++ mm2).length))), (v32, oBs (own_pad (((((((([123] : List Int32) ++ ([34] : List Int32)) ++ mm0) ++ ([34, 58, 34] : List Int32)) ++ mm1) ++ [(34 : Int32)]) ++ ([44, 34] : List Int32)) ++ mm2))), (g, ar "[Ljava/lang/String;" (.object "java/lang/String") [.ref q0, .ref q1, .ref q2, .ref q3]), (q0, ro ts0 (o_String (.ref b0) (.int 0))), (b0, ro tb0 (ar D0 .byte (mm0.map own_by))), (q1, ro ts1 (o_String (.ref b1) (.int 0))), (b1, ro tb1 (ar D1 .byte (mm1.map own_by))), (q2, ro ts2 (o_String (.ref b2) (.int 0))), (b2, ro tb2 (ar D2 .byte (mm2.map own_by))), (q3, ro ts3 (o_String (.ref b3) (.int 0))), (b3, ro tb3 (ar D3 .byte (mm3.map own_by)))] 10 65 (mkF m 39 #[.val (.ref g), .val (.ref a29), .val (.int (2 : Int32))] [.ref a29])
  refine Goes.ldcR X 12 (([34, 58, 34] : List Int32).map own_by) 3 (wd hw 195 rfl) (own_wS hw) (by decide) (own_Lv hw) (own_Lc hw) own_u79 (by decide) (by decide) (by decide) (fun a39 b40 vm0 k0 X => ?_)
  show Goes _ _ _ _ _ _ _ _ _ _ _ _ _ _ _ _ _ _ _ _ [(a29, o_SB (.ref v32) (.int 0) (.int (Int32.ofNat (((((((([123] : List Int32) ++ ([34] : List Int32)) ++ mm0) ++ ([34, 58, 34] : List Int32)) ++ mm1) ++ [(34 : Int32)]) ++ ([44, 34] : List Int32)) ++ mm2).length))), (v32, oBs (own_pad (((((((([123] : List Int32) ++ ([34] : List Int32)) ++ mm0) ++ ([34, 58, 34] : List Int32)) ++ mm1) ++ [(34 : Int32)]) ++ ([44, 34] : List Int32)) ++ mm2))), (g, ar "[Ljava/lang/String;" (.object "java/lang/String") [.ref q0, .ref q1, .ref q2, .ref q3]), (q0, ro ts0 (o_String (.ref b0) (.int 0))), (b0, ro tb0 (ar D0 .byte (mm0.map own_by))), (q1, ro ts1 (o_String (.ref b1) (.int 0))), (b1, ro tb1 (ar D1 .byte (mm1.map own_by))), (q2, ro ts2 (o_String (.ref b2) (.int 0))), (b2, ro tb2 (ar D2 .byte (mm2.map own_by))), (q3, ro ts3 (o_String (.ref b3) (.int 0))), (b3, ro tb3 (ar D3 .byte (mm3.map own_by))), (a39, ro 2 (o_String (.ref b40) (.int 0))), (b40, ro 2 (ar "" .byte (([34, 58, 34] : List Int32).map own_by)))] 12 81 (mkF m 41 #[.val (.ref g), .val (.ref a29), .val (.int (2 : Int32))] [.ref a39, .ref a29])
  refine Goes.callV X 0 0 [0, 1, 11, 12] [2, 3, 4, 5, 6, 7, 8, 9, 10] rfl (D_sap l Z a0 h0 hw cs hCS hcs a29 v32 a39 b40 2 2 "" ([34, 58, 34] : List Int32) (((((((([123] : List Int32) ++ ([34] : List Int32)) ++ mm0) ++ ([34, 58, 34] : List Int32)) ++ mm1) ++ [(34 : Int32)]) ++ ([44, 34] : List Int32)) ++ mm2) (by (try simp only [List.length_append, List.length_cons, List.length_nil]) <;> omega)) (wd hw 194 rfl) (wd hw 73 rfl) (wd hw 75 rfl) (wd hw 74 rfl) (own_nf X (wd hw 75 rfl)) (wd hw 38 rfl) (wd hw 76 rfl) pd_y_10 rfl (st := []) rfl rfl (G := [(g, ar "[Ljava/lang/String;" (.object "java/lang/String") [.ref q0, .ref q1, .ref q2, .ref q3]), (q0, ro ts0 (o_String (.ref b0) (.int 0))), (b0, ro tb0 (ar D0 .byte (mm0.map own_by))), (q1, ro ts1 (o_String (.ref b1) (.int 0))), (b1, ro tb1 (ar D1 .byte (mm1.map own_by))), (q2, ro ts2 (o_String (.ref b2) (.int 0))), (b2, ro tb2 (ar D2 .byte (mm2.map own_by))), (q3, ro ts3 (o_String (.ref b3) (.int 0))), (b3, ro tb3 (ar D3 .byte (mm3.map own_by)))]) rfl rfl ?_
  rintro _ _ ⟨rfl, rfl⟩
  refine ⟨Or.inr (Or.inr (by simp)), ?_⟩
  refine Goes.sub [0, 1, 4, 5, 6, 7, 8, 9, 10, 11, 12] (G := [(a29, o_SB (.ref v32) (.int 0) (.int (Int32.ofNat ((((((((([123] : List Int32) ++ ([34] : List Int32)) ++ mm0) ++ ([34, 58, 34] : List Int32)) ++ mm1) ++ [(34 : Int32)]) ++ ([44, 34] : List Int32)) ++ mm2) ++ ([34, 58, 34] : List Int32)).length))), (v32, oBs (own_pad ((((((((([123] : List Int32) ++ ([34] : List Int32)) ++ mm0) ++ ([34, 58, 34] : List Int32)) ++ mm1) ++ [(34 : Int32)]) ++ ([44, 34] : List Int32)) ++ mm2) ++ ([34, 58, 34] : List Int32)))), (g, ar "[Ljava/lang/String;" (.object "java/lang/String") [.ref q0, .ref q1, .ref q2, .ref q3]), (q0, ro ts0 (o_String (.ref b0) (.int 0))), (b0, ro tb0 (ar D0 .byte (mm0.map own_by))), (q1, ro ts1 (o_String (.ref b1) (.int 0))), (b1, ro tb1 (ar D1 .byte (mm1.map own_by))), (q2, ro ts2 (o_String (.ref b2) (.int 0))), (b2, ro tb2 (ar D2 .byte (mm2.map own_by))), (q3, ro ts3 (o_String (.ref b3) (.int 0))), (b3, ro tb3 (ar D3 .byte (mm3.map own_by)))]) rfl ?_
  show Goes _ _ _ _ _ _ _ _ _ _ _ _ _ _ _ _ _ _ _ _ [(a29, o_SB (.ref v32) (.int 0) (.int (Int32.ofNat ((((((((([123] : List Int32) ++ ([34] : List Int32)) ++ mm0) ++ ([34, 58, 34] : List Int32)) ++ mm1) ++ [(34 : Int32)]) ++ ([44, 34] : List Int32)) ++ mm2) ++ ([34, 58, 34] : List Int32)).length))), (v32, oBs (own_pad ((((((((([123] : List Int32) ++ ([34] : List Int32)) ++ mm0) ++ ([34, 58, 34] : List Int32)) ++ mm1) ++ [(34 : Int32)]) ++ ([44, 34] : List Int32)) ++ mm2) ++ ([34, 58, 34] : List Int32)))), (g, ar "[Ljava/lang/String;" (.object "java/lang/String") [.ref q0, .ref q1, .ref q2, .ref q3]), (q0, ro ts0 (o_String (.ref b0) (.int 0))), (b0, ro tb0 (ar D0 .byte (mm0.map own_by))), (q1, ro ts1 (o_String (.ref b1) (.int 0))), (b1, ro tb1 (ar D1 .byte (mm1.map own_by))), (q2, ro ts2 (o_String (.ref b2) (.int 0))), (b2, ro tb2 (ar D2 .byte (mm2.map own_by))), (q3, ro ts3 (o_String (.ref b3) (.int 0))), (b3, ro tb3 (ar D3 .byte (mm3.map own_by)))] 12 81 (mkF m 44 #[.val (.ref g), .val (.ref a29), .val (.int (2 : Int32))] [.ref a29])
  refine Goes.runS X [(.pop, 1), (.aload_n 1, 1), (.aload_n 0, 1), (.iload_n 2, 1), (.iconst 1, 1), (.iadd, 1)] (S' := [.int (3 : Int32), .ref g, .ref a29]) (pc' := 50) rfl ?_
  refine Goes.aaload X 2 3 rfl rfl (by decide) (by decide) rfl ?_
  refine Goes.callV X 0 0 [0, 1, 9, 10] [2, 3, 4, 5, 6, 7, 8] rfl (D_sap l Z a0 h0 hw cs hCS hcs a29 v32 q3 b3 ts3 tb3 D3 mm3 ((((((((([123] : List Int32) ++ ([34] : List Int32)) ++ mm0) ++ ([34, 58, 34] : List Int32)) ++ mm1) ++ [(34 : Int32)]) ++ ([44, 34] : List Int32)) ++ mm2) ++ ([34, 58, 34] : List Int32)) (by (try simp only [List.length_append, List.length_cons, List.length_nil]) <;> omega)) (wd hw 194 rfl) (wd hw 73 rfl) (wd hw 75 rfl) (wd hw 74 rfl) (own_nf X (wd hw 75 rfl)) (wd hw 38 rfl) (wd hw 76 rfl) pd_y_10 rfl (st := []) rfl rfl (G := [(g, ar "[Ljava/lang/String;" (.object "java/lang/String") [.ref q0, .ref q1, .ref q2, .ref q3]), (q0, ro ts0 (o_String (.ref b0) (.int 0))), (b0, ro tb0 (ar D0 .byte (mm0.map own_by))), (q1, ro ts1 (o_String (.ref b1) (.int 0))), (b1, ro tb1 (ar D1 .byte (mm1.map own_by))), (q2, ro ts2 (o_String (.ref b2) (.int 0))), (b2, ro tb2 (ar D2 .byte (mm2.map own_by)))]) rfl rfl ?_
  rintro _ _ ⟨rfl, rfl⟩
  refine ⟨Or.inr (Or.inr (by simp)), ?_⟩
  refine Goes.sub [0, 1, 4, 5, 6, 7, 8, 9, 10, 2, 3] (G := [(a29, o_SB (.ref v32) (.int 0) (.int (Int32.ofNat (((((((((([123] : List Int32) ++ ([34] : List Int32)) ++ mm0) ++ ([34, 58, 34] : List Int32)) ++ mm1) ++ [(34 : Int32)]) ++ ([44, 34] : List Int32)) ++ mm2) ++ ([34, 58, 34] : List Int32)) ++ mm3).length))), (v32, oBs (own_pad (((((((((([123] : List Int32) ++ ([34] : List Int32)) ++ mm0) ++ ([34, 58, 34] : List Int32)) ++ mm1) ++ [(34 : Int32)]) ++ ([44, 34] : List Int32)) ++ mm2) ++ ([34, 58, 34] : List Int32)) ++ mm3))), (g, ar "[Ljava/lang/String;" (.object "java/lang/String") [.ref q0, .ref q1, .ref q2, .ref q3]), (q0, ro ts0 (o_String (.ref b0) (.int 0))), (b0, ro tb0 (ar D0 .byte (mm0.map own_by))), (q1, ro ts1 (o_String (.ref b1) (.int 0))), (b1, ro tb1 (ar D1 .byte (mm1.map own_by))), (q2, ro ts2 (o_String (.ref b2) (.int 0))), (b2, ro tb2 (ar D2 .byte (mm2.map own_by))), (q3, ro ts3 (o_String (.ref b3) (.int 0))), (b3, ro tb3 (ar D3 .byte (mm3.map own_by)))]) rfl ?_
  show Goes _ _ _ _ _ _ _ _ _ _ _ _ _ _ _ _ _ _ _ _ [(a29, o_SB (.ref v32) (.int 0) (.int (Int32.ofNat (((((((((([123] : List Int32) ++ ([34] : List Int32)) ++ mm0) ++ ([34, 58, 34] : List Int32)) ++ mm1) ++ [(34 : Int32)]) ++ ([44, 34] : List Int32)) ++ mm2) ++ ([34, 58, 34] : List Int32)) ++ mm3).length))), (v32, oBs (own_pad (((((((((([123] : List Int32) ++ ([34] : List Int32)) ++ mm0) ++ ([34, 58, 34] : List Int32)) ++ mm1) ++ [(34 : Int32)]) ++ ([44, 34] : List Int32)) ++ mm2) ++ ([34, 58, 34] : List Int32)) ++ mm3))), (g, ar "[Ljava/lang/String;" (.object "java/lang/String") [.ref q0, .ref q1, .ref q2, .ref q3]), (q0, ro ts0 (o_String (.ref b0) (.int 0))), (b0, ro tb0 (ar D0 .byte (mm0.map own_by))), (q1, ro ts1 (o_String (.ref b1) (.int 0))), (b1, ro tb1 (ar D1 .byte (mm1.map own_by))), (q2, ro ts2 (o_String (.ref b2) (.int 0))), (b2, ro tb2 (ar D2 .byte (mm2.map own_by))), (q3, ro ts3 (o_String (.ref b3) (.int 0))), (b3, ro tb3 (ar D3 .byte (mm3.map own_by)))] 12 81 (mkF m 54 #[.val (.ref g), .val (.ref a29), .val (.int (2 : Int32))] [.ref a29])
  refine Goes.runS X [(.bipush 34, 2)] (S' := [.int (34 : Int32), .ref a29]) (pc' := 56) rfl ?_
  refine Goes.callV X 0 0 [0, 1] [2, 3, 4, 5, 6, 7, 8, 9, 10] rfl (D_scc l Z a0 h0 hw cs hCS hcs a29 v32 (((((((((([123] : List Int32) ++ ([34] : List Int32)) ++ mm0) ++ ([34, 58, 34] : List Int32)) ++ mm1) ++ [(34 : Int32)]) ++ ([44, 34] : List Int32)) ++ mm2) ++ ([34, 58, 34] : List Int32)) ++ mm3) (by (try simp only [List.length_append, List.length_cons, List.length_nil]) <;> omega) (34 : Int32) (by decide)) (wd hw 107 rfl) (wd hw 108 rfl) (wd hw 110 rfl) (wd hw 109 rfl) (own_nf X (wd hw 110 rfl)) (wd hw 38 rfl) (wd hw 111 rfl) pd_y_16 rfl (st := []) rfl rfl (G := [(g, ar "[Ljava/lang/String;" (.object "java/lang/String") [.ref q0, .ref q1, .ref q2, .ref q3]), (q0, ro ts0 (o_String (.ref b0) (.int 0))), (b0, ro tb0 (ar D0 .byte (mm0.map own_by))), (q1, ro ts1 (o_String (.ref b1) (.int 0))), (b1, ro tb1 (ar D1 .byte (mm1.map own_by))), (q2, ro ts2 (o_String (.ref b2) (.int 0))), (b2, ro tb2 (ar D2 .byte (mm2.map own_by))), (q3, ro ts3 (o_String (.ref b3) (.int 0))), (b3, ro tb3 (ar D3 .byte (mm3.map own_by)))]) rfl rfl ?_
  rintro _ _ ⟨rfl, rfl⟩
  refine ⟨Or.inl rfl, ?_⟩
  refine Goes.sub [0, 1, 2, 3, 4, 5, 6, 7, 8, 9, 10] (G := [(a29, o_SB (.ref v32) (.int 0) (.int (Int32.ofNat ((((((((((([123] : List Int32) ++ ([34] : List Int32)) ++ mm0) ++ ([34, 58, 34] : List Int32)) ++ mm1) ++ [(34 : Int32)]) ++ ([44, 34] : List Int32)) ++ mm2) ++ ([34, 58, 34] : List Int32)) ++ mm3) ++ [(34 : Int32)]).length))), (v32, oBs (own_pad ((((((((((([123] : List Int32) ++ ([34] : List Int32)) ++ mm0) ++ ([34, 58, 34] : List Int32)) ++ mm1) ++ [(34 : Int32)]) ++ ([44, 34] : List Int32)) ++ mm2) ++ ([34, 58, 34] : List Int32)) ++ mm3) ++ [(34 : Int32)]))), (g, ar "[Ljava/lang/String;" (.object "java/lang/String") [.ref q0, .ref q1, .ref q2, .ref q3]), (q0, ro ts0 (o_String (.ref b0) (.int 0))), (b0, ro tb0 (ar D0 .byte (mm0.map own_by))), (q1, ro ts1 (o_String (.ref b1) (.int 0))), (b1, ro tb1 (ar D1 .byte (mm1.map own_by))), (q2, ro ts2 (o_String (.ref b2) (.int 0))), (b2, ro tb2 (ar D2 .byte (mm2.map own_by))), (q3, ro ts3 (o_String (.ref b3) (.int 0))), (b3, ro tb3 (ar D3 .byte (mm3.map own_by)))]) rfl ?_
  show Goes _ _ _ _ _ _ _ _ _ _ _ _ _ _ _ _ _ _ _ _ [(a29, o_SB (.ref v32) (.int 0) (.int (Int32.ofNat ((((((((((([123] : List Int32) ++ ([34] : List Int32)) ++ mm0) ++ ([34, 58, 34] : List Int32)) ++ mm1) ++ [(34 : Int32)]) ++ ([44, 34] : List Int32)) ++ mm2) ++ ([34, 58, 34] : List Int32)) ++ mm3) ++ [(34 : Int32)]).length))), (v32, oBs (own_pad ((((((((((([123] : List Int32) ++ ([34] : List Int32)) ++ mm0) ++ ([34, 58, 34] : List Int32)) ++ mm1) ++ [(34 : Int32)]) ++ ([44, 34] : List Int32)) ++ mm2) ++ ([34, 58, 34] : List Int32)) ++ mm3) ++ [(34 : Int32)]))), (g, ar "[Ljava/lang/String;" (.object "java/lang/String") [.ref q0, .ref q1, .ref q2, .ref q3]), (q0, ro ts0 (o_String (.ref b0) (.int 0))), (b0, ro tb0 (ar D0 .byte (mm0.map own_by))), (q1, ro ts1 (o_String (.ref b1) (.int 0))), (b1, ro tb1 (ar D1 .byte (mm1.map own_by))), (q2, ro ts2 (o_String (.ref b2) (.int 0))), (b2, ro tb2 (ar D2 .byte (mm2.map own_by))), (q3, ro ts3 (o_String (.ref b3) (.int 0))), (b3, ro tb3 (ar D3 .byte (mm3.map own_by)))] 12 81 (mkF m 59 #[.val (.ref g), .val (.ref a29), .val (.int (2 : Int32))] [.ref a29])
  refine Goes.run X [(.pop, 1), (.iinc 2 2, 3)] (L' := #[.val (.ref g), .val (.ref a29), .val (.int (4 : Int32))]) (S' := []) (pc' := 63) rfl ?_
  refine Goes.goto X (o := (-51)) (pc' := 12) ?_
  refine Goes.runS X [(.iload_n 2, 1), (.aload_n 0, 1)] (S' := [.ref g, .int (4 : Int32)]) (pc' := 14) rfl ?_
  refine Goes.alen X 2 (n := 4) rfl rfl ?_
  refine Goes.if2 X (pc' := 66) (o := 51) (cd := .ge) (fun _ => ?_) (fun q => absurd q (by decide))
  refine Goes.runS X [(.aload_n 1, 1), (.bipush 125, 2)] (S' := [.int (125 : Int32), .ref a29]) (pc' := 69) rfl ?_
  refine Goes.callV X 0 0 [0, 1] [2, 3, 4, 5, 6, 7, 8, 9, 10] rfl (D_scc l Z a0 h0 hw cs hCS hcs a29 v32 ((((((((((([123] : List Int32) ++ ([34] : List Int32)) ++ mm0) ++ ([34, 58, 34] : List Int32)) ++ mm1) ++ [(34 : Int32)]) ++ ([44, 34] : List Int32)) ++ mm2) ++ ([34, 58, 34] : List Int32)) ++ mm3) ++ [(34 : Int32)]) (by (try simp only [List.length_append, List.length_cons, List.length_nil]) <;> omega) (125 : Int32) (by decide)) (wd hw 107 rfl) (wd hw 108 rfl) (wd hw 110 rfl) (wd hw 109 rfl) (own_nf X (wd hw 110 rfl)) (wd hw 38 rfl) (wd hw 111 rfl) pd_y_16 rfl (st := []) rfl rfl (G := [(g, ar "[Ljava/lang/String;" (.object "java/lang/String") [.ref q0, .ref q1, .ref q2, .ref q3]), (q0, ro ts0 (o_String (.ref b0) (.int 0))), (b0, ro tb0 (ar D0 .byte (mm0.map own_by))), (q1, ro ts1 (o_String (.ref b1) (.int 0))), (b1, ro tb1 (ar D1 .byte (mm1.map own_by))), (q2, ro ts2 (o_String (.ref b2) (.int 0))), (b2, ro tb2 (ar D2 .byte (mm2.map own_by))), (q3, ro ts3 (o_String (.ref b3) (.int 0))), (b3, ro tb3 (ar D3 .byte (mm3.map own_by)))]) rfl rfl ?_
  rintro _ _ ⟨rfl, rfl⟩
  refine ⟨Or.inl rfl, ?_⟩
  refine Goes.sub [0, 1, 2, 3, 4, 5, 6, 7, 8, 9, 10] (G := [(a29, o_SB (.ref v32) (.int 0) (.int (Int32.ofNat (((((((((((([123] : List Int32) ++ ([34] : List Int32)) ++ mm0) ++ ([34, 58, 34] : List Int32)) ++ mm1) ++ [(34 : Int32)]) ++ ([44, 34] : List Int32)) ++ mm2) ++ ([34, 58, 34] : List Int32)) ++ mm3) ++ [(34 : Int32)]) ++ [(125 : Int32)]).length))), (v32, oBs (own_pad (((((((((((([123] : List Int32) ++ ([34] : List Int32)) ++ mm0) ++ ([34, 58, 34] : List Int32)) ++ mm1) ++ [(34 : Int32)]) ++ ([44, 34] : List Int32)) ++ mm2) ++ ([34, 58, 34] : List Int32)) ++ mm3) ++ [(34 : Int32)]) ++ [(125 : Int32)]))), (g, ar "[Ljava/lang/String;" (.object "java/lang/String") [.ref q0, .ref q1, .ref q2, .ref q3]), (q0, ro ts0 (o_String (.ref b0) (.int 0))), (b0, ro tb0 (ar D0 .byte (mm0.map own_by))), (q1, ro ts1 (o_String (.ref b1) (.int 0))), (b1, ro tb1 (ar D1 .byte (mm1.map own_by))), (q2, ro ts2 (o_String (.ref b2) (.int 0))), (b2, ro tb2 (ar D2 .byte (mm2.map own_by))), (q3, ro ts3 (o_String (.ref b3) (.int 0))), (b3, ro tb3 (ar D3 .byte (mm3.map own_by)))]) rfl ?_
  show Goes _ _ _ _ _ _ _ _ _ _ _ _ _ _ _ _ _ _ _ _ [(a29, o_SB (.ref v32) (.int 0) (.int (Int32.ofNat (((((((((((([123] : List Int32) ++ ([34] : List Int32)) ++ mm0) ++ ([34, 58, 34] : List Int32)) ++ mm1) ++ [(34 : Int32)]) ++ ([44, 34] : List Int32)) ++ mm2) ++ ([34, 58, 34] : List Int32)) ++ mm3) ++ [(34 : Int32)]) ++ [(125 : Int32)]).length))), (v32, oBs (own_pad (((((((((((([123] : List Int32) ++ ([34] : List Int32)) ++ mm0) ++ ([34, 58, 34] : List Int32)) ++ mm1) ++ [(34 : Int32)]) ++ ([44, 34] : List Int32)) ++ mm2) ++ ([34, 58, 34] : List Int32)) ++ mm3) ++ [(34 : Int32)]) ++ [(125 : Int32)]))), (g, ar "[Ljava/lang/String;" (.object "java/lang/String") [.ref q0, .ref q1, .ref q2, .ref q3]), (q0, ro ts0 (o_String (.ref b0) (.int 0))), (b0, ro tb0 (ar D0 .byte (mm0.map own_by))), (q1, ro ts1 (o_String (.ref b1) (.int 0))), (b1, ro tb1 (ar D1 .byte (mm1.map own_by))), (q2, ro ts2 (o_String (.ref b2) (.int 0))), (b2, ro tb2 (ar D2 .byte (mm2.map own_by))), (q3, ro ts3 (o_String (.ref b3) (.int 0))), (b3, ro tb3 (ar D3 .byte (mm3.map own_by)))] 12 81 (mkF m 72 #[.val (.ref g), .val (.ref a29), .val (.int (4 : Int32))] [.ref a29])
  refine Goes.callV X 0 0 [0, 1] [2, 3, 4, 5, 6, 7, 8, 9, 10] rfl (D_tos l Z a0 h0 hw cs hCS hcs a29 v32 (((((((((((([123] : List Int32) ++ ([34] : List Int32)) ++ mm0) ++ ([34, 58, 34] : List Int32)) ++ mm1) ++ [(34 : Int32)]) ++ ([44, 34] : List Int32)) ++ mm2) ++ ([34, 58, 34] : List Int32)) ++ mm3) ++ [(34 : Int32)]) ++ [(125 : Int32)]) (by (try simp only [List.length_append, List.length_cons, List.length_nil]) <;> omega)) (wd hw 122 rfl) (wd hw 123 rfl) (wd hw 125 rfl) (wd hw 124 rfl) (own_nf X (wd hw 125 rfl)) (wd hw 38 rfl) (wd hw 126 rfl) pd_y_19 rfl (st := []) rfl rfl (G := [(g, ar "[Ljava/lang/String;" (.object "java/lang/String") [.ref q0, .ref q1, .ref q2, .ref q3]), (q0, ro ts0 (o_String (.ref b0) (.int 0))), (b0, ro tb0 (ar D0 .byte (mm0.map own_by))), (q1, ro ts1 (o_String (.ref b1) (.int 0))), (b1, ro tb1 (ar D1 .byte (mm1.map own_by))), (q2, ro ts2 (o_String (.ref b2) (.int 0))), (b2, ro tb2 (ar D2 .byte (mm2.map own_by))), (q3, ro ts3 (o_String (.ref b3) (.int 0))), (b3, ro tb3 (ar D3 .byte (mm3.map own_by)))]) rfl rfl ?_
  rintro _ _ ⟨r41, t42, rfl, rfl⟩
  refine ⟨Or.inl rfl, ?_⟩
  have eJ : (((((((((((([123] : List Int32) ++ ([34] : List Int32)) ++ mm0) ++ ([34, 58, 34] : List Int32)) ++ mm1) ++ [(34 : Int32)]) ++ ([44, 34] : List Int32)) ++ mm2) ++ ([34, 58, 34] : List Int32)) ++ mm3) ++ [(34 : Int32)]) ++ [(125 : Int32)]) = (own_js2 mm0 mm1 mm2 mm3) := by simp only [own_js0, own_js1, own_js2, own_pr, List.append_assoc, List.cons_append, List.nil_append]
  refine Goes.sub [0, 1] (G := [(r41, o_String (.ref t42) (.int 0)), (t42, oBs ((((((((((((([123] : List Int32) ++ ([34] : List Int32)) ++ mm0) ++ ([34, 58, 34] : List Int32)) ++ mm1) ++ [(34 : Int32)]) ++ ([44, 34] : List Int32)) ++ mm2) ++ ([34, 58, 34] : List Int32)) ++ mm3) ++ [(34 : Int32)]) ++ [(125 : Int32)]).map own_by))]) rfl ?_
  show Goes _ _ _ _ _ _ _ _ _ _ _ _ _ _ _ _ _ _ _ _ [(r41, o_String (.ref t42) (.int 0)), (t42, oBs ((((((((((((([123] : List Int32) ++ ([34] : List Int32)) ++ mm0) ++ ([34, 58, 34] : List Int32)) ++ mm1) ++ [(34 : Int32)]) ++ ([44, 34] : List Int32)) ++ mm2) ++ ([34, 58, 34] : List Int32)) ++ mm3) ++ [(34 : Int32)]) ++ [(125 : Int32)]).map own_by))] 14 102 (mkF m 75 #[.val (.ref g), .val (.ref a29), .val (.int (4 : Int32))] [.ref r41])
  rw [eJ]
  show Goes _ _ _ _ _ _ _ _ _ _ _ _ _ _ _ _ _ _ _ _ [(r41, o_String (.ref t42) (.int 0)), (t42, oBs ((own_js2 mm0 mm1 mm2 mm3).map own_by))] 14 102 (mkF m 75 #[.val (.ref g), .val (.ref a29), .val (.int (4 : Int32))] [.ref r41])
  refine Goes.retA X rfl rfl rfl ?_
  exact ⟨r41, t42, rfl, rfl⟩
theorem own_ge : ∀ j : Nat, j ≤ 17 → ∀ k : Nat, k ≤ 17 → if_icmp.holds .ge (Int32.ofNat j) (Int32.ofNat k) = decide (k ≤ j) := by decide +kernel
theorem own_lt : ∀ j : Nat, j ≤ 17 → ∀ k : Nat, k ≤ 17 → j < k → Int32.ofNat j < Int32.ofNat k := by decide +kernel
theorem own_padC_at {ll : List Int32} {j : Nat} {c : Int32} (h : ll[j]? = some c) : (own_padC ll)[j]? = some (.int c) := by
  have hlt := (List.getElem?_eq_some_iff.mp h).1
  unfold own_padC
  rw [List.getElem?_append_left (by rw [List.length_map]; exact hlt), List.getElem?_map, h]; rfl
theorem own_by_at {ll : List Int32} {j : Nat} {c : Int32} (h : ll[j]? = some c) : (ll.map own_by)[j]? = some (.int (oI2b c)) := by rw [List.getElem?_map, h]; rfl
set_option maxRecDepth 65536 in
set_option maxHeartbeats 40000000 in
theorem D_put (l : Launch) (Z : State) (a0 : Array Value) (h0 : Heap) (hw : ∀ d ∈ tables_1, d.before a0 Z = true) (u : Addr) (ll : List Int32) (hl : ll.length < 17) (i : Int32) (hi : i = Int32.ofNat ll.length) (c' : Int32) (hc : nar .char c' = c') : Does l Z a0 h0 y_29 method_3_code 3 (some .int) ({ frames := 0, cells := 0, slots := 0, locals := 0 } : Room) #[.ref u, .int i, .int c'] [(u, ar "[C" .char (own_padC ll))] (fun r F => r = some (.int (Int32.ofNat (ll ++ [c']).length)) ∧ F = [(u, ar "[C" .char (own_padC (ll ++ [c'])))]) := by
  refine Does.mk #[.val (.ref u), .val (.int i), .val (.int c')] (plainFor_of_name (by decide +kernel)) (fun m => by first | (simp [entryFrame, mkF, argsToLocals, Value.category]; done) | rfl) ?_
  intro p e s m args below meth c h X
  show Goes _ _ _ _ _ _ _ _ _ _ _ _ _ _ _ _ _ _ _ _ [(u, ar "[C" .char (own_padC ll))] 0 0 (mkF m 0 #[.val (.ref u), .val (.int i), .val (.int c')] [])
  subst hi
  show Goes _ _ _ _ _ _ _ _ _ _ _ _ _ _ _ _ _ _ _ _ [(u, ar "[C" .char (own_padC ll))] 0 0 (mkF m 0 #[.val (.ref u), .val (.int (Int32.ofNat ll.length)), .val (.int c')] [])
  refine Goes.runS X [(.aload_n 0, 1), (.iload_n 1, 1), (.iload_n 2, 1)] (S' := [.int c', .int (Int32.ofNat ll.length), .ref u]) (pc' := 3) rfl ?_
  refine Goes.castore X 0 ll.length rfl (own_jn ll.length (by omega)).1 (own_jn ll.length (by omega)).2.1 (by rw [own_padC_len ll (by omega)]; exact hl) ?_
  show Goes _ _ _ _ _ _ _ _ _ _ _ _ _ _ _ _ _ _ _ _ [(u, ar "[C" .char ((own_padC ll).set ll.length (.int (nar .char c'))))] 0 0 (mkF m 4 #[.val (.ref u), .val (.int (Int32.ofNat ll.length)), .val (.int c')] [])
  rw [hc, own_padC_set ll c' hl]
  show Goes _ _ _ _ _ _ _ _ _ _ _ _ _ _ _ _ _ _ _ _ [(u, ar "[C" .char (own_padC (ll ++ [c'])))] 0 0 (mkF m 4 #[.val (.ref u), .val (.int (Int32.ofNat ll.length)), .val (.int c')] [])
  refine Goes.runS X [(.iload_n 1, 1), (.iconst 1, 1), (.iadd, 1)] (S' := [.int ((Int32.ofNat ll.length) + (1 : Int32))]) (pc' := 7) rfl ?_
  rw [own_apc ll c']
  show Goes _ _ _ _ _ _ _ _ _ _ _ _ _ _ _ _ _ _ _ _ [(u, ar "[C" .char (own_padC (ll ++ [c'])))] 0 0 (mkF m 7 #[.val (.ref u), .val (.int (Int32.ofNat ll.length)), .val (.int c')] [.int (Int32.ofNat (ll ++ [c']).length)])
  refine Goes.retI X (by simp) rfl ?_
  exact ⟨rfl, rfl⟩
set_option maxRecDepth 65536 in
set_option maxHeartbeats 40000000 in
theorem D_pair (l : Launch) (Z : State) (a0 : Array Value) (h0 : Heap) (hw : ∀ d ∈ tables_1, d.before a0 Z = true) (u : Addr) (ll : List Int32) (hl : ll.length + 7 ≤ 17) (c0 z0 c1 z1 : Int32) (mm0 mm1 : List Int32) (hc0 : nar .char c0 = c0) (hc1 : nar .char c1 = c1) (hq0 : ((z0 = 0 ∧ mm0 = [c0]) ∨ (¬ z0 = 0 ∧ mm0 = []))) (hq1 : ((z1 = 0 ∧ mm1 = [c1]) ∨ (¬ z1 = 0 ∧ mm1 = []))) : Does l Z a0 h0 y_36 method_4_code 7 (some .int) ({ frames := 1, cells := 0, slots := 0, locals := 14 } : Room) #[.ref u, .int (Int32.ofNat ll.length), .int c0, .int z0, .int c1, .int z1] [(u, ar "[C" .char (own_padC ll))] (fun r F => r = some (.int (Int32.ofNat (ll ++ own_pr mm0 mm1).length)) ∧ F = [(u, ar "[C" .char (own_padC (ll ++ own_pr mm0 mm1)))]) := by
  refine Does.mk #[.val (.ref u), .val (.int (Int32.ofNat ll.length)), .val (.int c0), .val (.int z0), .val (.int c1), .val (.int z1), .unset] (plainFor_of_name (by decide +kernel)) (fun m => by first | (simp [entryFrame, mkF, argsToLocals, Value.category]; done) | rfl) ?_
  intro p e s m args below meth c h X
  show Goes _ _ _ _ _ _ _ _ _ _ _ _ _ _ _ _ _ _ _ _ [(u, ar "[C" .char (own_padC ll))] 0 0 (mkF m 0 #[.val (.ref u), .val (.int (Int32.ofNat ll.length)), .val (.int c0), .val (.int z0), .val (.int c1), .val (.int z1), .unset] [])
  rcases hq0 with ⟨e0, rfl⟩ | ⟨e0, rfl⟩ <;> rcases hq1 with ⟨e1, rfl⟩ | ⟨e1, rfl⟩
  · refine Goes.runS X [(.aload_n 0, 1), (.iload_n 1, 1), (.bipush 34, 2)] (S' := [.int (34 : Int32), .int (Int32.ofNat ll.length), .ref u]) (pc' := 4) rfl ?_
    refine Goes.callS X 0 [0] [] (D_put l Z a0 h0 hw u ll (by (try simp only [List.length_append, List.length_cons, List.length_nil]) <;> omega) _ rfl (34 : Int32) (by decide)) (wd hw 164 rfl) (wd hw 165 rfl) (wd hw 166 rfl) (wd hw 167 rfl) pd_y_29 rfl (st := []) rfl rfl (G := []) rfl rfl ?_
    rintro _ _ ⟨rfl, rfl⟩
    refine ⟨Or.inl rfl, ?_⟩
    refine Goes.run X [(.istore 6, 2), (.iload_n 3, 1)] (L' := #[.val (.ref u), .val (.int (Int32.ofNat ll.length)), .val (.int c0), .val (.int z0), .val (.int c1), .val (.int z1), .val (.int (Int32.ofNat (ll ++ [(34 : Int32)]).length))]) (S' := [.int z0]) (pc' := 10) rfl ?_
    refine Goes.if1 X (pc' := 22) (o := 12) (cd := .ne) (fun q => absurd (q.symm.trans (by simp [ifCond.holds, e0] : ifCond.holds .ne z0 = false)) (by decide)) (fun _ => ?_)
    refine Goes.runS X [(.aload_n 0, 1), (.iload 6, 2), (.iload_n 2, 1)] (S' := [.int c0, .int (Int32.ofNat (ll ++ [(34 : Int32)]).length), .ref u]) (pc' := 17) rfl ?_
    refine Goes.callS X 0 [0] [] (D_put l Z a0 h0 hw u (ll ++ [(34 : Int32)]) (by (try simp only [List.length_append, List.length_cons, List.length_nil]) <;> omega) _ rfl c0 hc0) (wd hw 164 rfl) (wd hw 165 rfl) (wd hw 166 rfl) (wd hw 167 rfl) pd_y_29 rfl (st := []) rfl rfl (G := []) rfl rfl ?_
    rintro _ _ ⟨rfl, rfl⟩
    refine ⟨Or.inl rfl, ?_⟩
    refine Goes.run X [(.istore 6, 2), (.aload_n 0, 1), (.iload 6, 2), (.bipush 34, 2)] (L' := #[.val (.ref u), .val (.int (Int32.ofNat ll.length)), .val (.int c0), .val (.int z0), .val (.int c1), .val (.int z1), .val (.int (Int32.ofNat ((ll ++ [(34 : Int32)]) ++ [c0]).length))]) (S' := [.int (34 : Int32), .int (Int32.ofNat ((ll ++ [(34 : Int32)]) ++ [c0]).length), .ref u]) (pc' := 27) rfl ?_
    refine Goes.callS X 0 [0] [] (D_put l Z a0 h0 hw u ((ll ++ [(34 : Int32)]) ++ [c0]) (by (try simp only [List.length_append, List.length_cons, List.length_nil]) <;> omega) _ rfl (34 : Int32) (by decide)) (wd hw 164 rfl) (wd hw 165 rfl) (wd hw 166 rfl) (wd hw 167 rfl) pd_y_29 rfl (st := []) rfl rfl (G := []) rfl rfl ?_
    rintro _ _ ⟨rfl, rfl⟩
    refine ⟨Or.inl rfl, ?_⟩
    refine Goes.run X [(.istore 6, 2), (.aload_n 0, 1), (.iload 6, 2), (.bipush 58, 2)] (L' := #[.val (.ref u), .val (.int (Int32.ofNat ll.length)), .val (.int c0), .val (.int z0), .val (.int c1), .val (.int z1), .val (.int (Int32.ofNat (((ll ++ [(34 : Int32)]) ++ [c0]) ++ [(34 : Int32)]).length))]) (S' := [.int (58 : Int32), .int (Int32.ofNat (((ll ++ [(34 : Int32)]) ++ [c0]) ++ [(34 : Int32)]).length), .ref u]) (pc' := 37) rfl ?_
    refine Goes.callS X 0 [0] [] (D_put l Z a0 h0 hw u (((ll ++ [(34 : Int32)]) ++ [c0]) ++ [(34 : Int32)]) (by (try simp only [List.length_append, List.length_cons, List.length_nil]) <;> omega) _ rfl (58 : Int32) (by decide)) (wd hw 164 rfl) (wd hw 165 rfl) (wd hw 166 rfl) (wd hw 167 rfl) pd_y_29 rfl (st := []) rfl rfl (G := []) rfl rfl ?_
    rintro _ _ ⟨rfl, rfl⟩
    refine ⟨Or.inl rfl, ?_⟩
    refine Goes.run X [(.istore 6, 2), (.aload_n 0, 1), (.iload 6, 2), (.bipush 34, 2)] (L' := #[.val (.ref u), .val (.int (Int32.ofNat ll.length)), .val (.int c0), .val (.int z0), .val (.int c1), .val (.int z1), .val (.int (Int32.ofNat ((((ll ++ [(34 : Int32)]) ++ [c0]) ++ [(34 : Int32)]) ++ [(58 : Int32)]).length))]) (S' := [.int (34 : Int32), .int (Int32.ofNat ((((ll ++ [(34 : Int32)]) ++ [c0]) ++ [(34 : Int32)]) ++ [(58 : Int32)]).length), .ref u]) (pc' := 47) rfl ?_
    refine Goes.callS X 0 [0] [] (D_put l Z a0 h0 hw u ((((ll ++ [(34 : Int32)]) ++ [c0]) ++ [(34 : Int32)]) ++ [(58 : Int32)]) (by (try simp only [List.length_append, List.length_cons, List.length_nil]) <;> omega) _ rfl (34 : Int32) (by decide)) (wd hw 164 rfl) (wd hw 165 rfl) (wd hw 166 rfl) (wd hw 167 rfl) pd_y_29 rfl (st := []) rfl rfl (G := []) rfl rfl ?_
    rintro _ _ ⟨rfl, rfl⟩
    refine ⟨Or.inl rfl, ?_⟩
    refine Goes.run X [(.istore 6, 2), (.iload 5, 2)] (L' := #[.val (.ref u), .val (.int (Int32.ofNat ll.length)), .val (.int c0), .val (.int z0), .val (.int c1), .val (.int z1), .val (.int (Int32.ofNat (((((ll ++ [(34 : Int32)]) ++ [c0]) ++ [(34 : Int32)]) ++ [(58 : Int32)]) ++ [(34 : Int32)]).length))]) (S' := [.int z1]) (pc' := 54) rfl ?_
    refine Goes.if1 X (pc' := 67) (o := 13) (cd := .ne) (fun q => absurd (q.symm.trans (by simp [ifCond.holds, e1] : ifCond.holds .ne z1 = false)) (by decide)) (fun _ => ?_)
    refine Goes.runS X [(.aload_n 0, 1), (.iload 6, 2), (.iload 4, 2)] (S' := [.int c1, .int (Int32.ofNat (((((ll ++ [(34 : Int32)]) ++ [c0]) ++ [(34 : Int32)]) ++ [(58 : Int32)]) ++ [(34 : Int32)]).length), .ref u]) (pc' := 62) rfl ?_
    refine Goes.callS X 0 [0] [] (D_put l Z a0 h0 hw u (((((ll ++ [(34 : Int32)]) ++ [c0]) ++ [(34 : Int32)]) ++ [(58 : Int32)]) ++ [(34 : Int32)]) (by (try simp only [List.length_append, List.length_cons, List.length_nil]) <;> omega) _ rfl c1 hc1) (wd hw 164 rfl) (wd hw 165 rfl) (wd hw 166 rfl) (wd hw 167 rfl) pd_y_29 rfl (st := []) rfl rfl (G := []) rfl rfl ?_
    rintro _ _ ⟨rfl, rfl⟩
    refine ⟨Or.inl rfl, ?_⟩
    refine Goes.run X [(.istore 6, 2), (.aload_n 0, 1), (.iload 6, 2), (.bipush 34, 2)] (L' := #[.val (.ref u), .val (.int (Int32.ofNat ll.length)), .val (.int c0), .val (.int z0), .val (.int c1), .val (.int z1), .val (.int (Int32.ofNat ((((((ll ++ [(34 : Int32)]) ++ [c0]) ++ [(34 : Int32)]) ++ [(58 : Int32)]) ++ [(34 : Int32)]) ++ [c1]).length))]) (S' := [.int (34 : Int32), .int (Int32.ofNat ((((((ll ++ [(34 : Int32)]) ++ [c0]) ++ [(34 : Int32)]) ++ [(58 : Int32)]) ++ [(34 : Int32)]) ++ [c1]).length), .ref u]) (pc' := 72) rfl ?_
    refine Goes.callS X 0 [0] [] (D_put l Z a0 h0 hw u ((((((ll ++ [(34 : Int32)]) ++ [c0]) ++ [(34 : Int32)]) ++ [(58 : Int32)]) ++ [(34 : Int32)]) ++ [c1]) (by (try simp only [List.length_append, List.length_cons, List.length_nil]) <;> omega) _ rfl (34 : Int32) (by decide)) (wd hw 164 rfl) (wd hw 165 rfl) (wd hw 166 rfl) (wd hw 167 rfl) pd_y_29 rfl (st := []) rfl rfl (G := []) rfl rfl ?_
    rintro _ _ ⟨rfl, rfl⟩
    refine ⟨Or.inl rfl, ?_⟩
    refine Goes.run X [(.istore 6, 2), (.iload 6, 2)] (L' := #[.val (.ref u), .val (.int (Int32.ofNat ll.length)), .val (.int c0), .val (.int z0), .val (.int c1), .val (.int z1), .val (.int (Int32.ofNat (((((((ll ++ [(34 : Int32)]) ++ [c0]) ++ [(34 : Int32)]) ++ [(58 : Int32)]) ++ [(34 : Int32)]) ++ [c1]) ++ [(34 : Int32)]).length))]) (S' := [.int (Int32.ofNat (((((((ll ++ [(34 : Int32)]) ++ [c0]) ++ [(34 : Int32)]) ++ [(58 : Int32)]) ++ [(34 : Int32)]) ++ [c1]) ++ [(34 : Int32)]).length)]) (pc' := 79) rfl ?_
    have eP : (((((((ll ++ [(34 : Int32)]) ++ [c0]) ++ [(34 : Int32)]) ++ [(58 : Int32)]) ++ [(34 : Int32)]) ++ [c1]) ++ [(34 : Int32)]) = (ll ++ own_pr [c0] [c1]) := by simp only [own_pr, List.append_assoc, List.cons_append, List.nil_append]
    refine Goes.retI X (by simp) rfl ?_
    exact ⟨by rw [eP], by rw [eP]; rfl⟩
  · refine Goes.runS X [(.aload_n 0, 1), (.iload_n 1, 1), (.bipush 34, 2)] (S' := [.int (34 : Int32), .int (Int32.ofNat ll.length), .ref u]) (pc' := 4) rfl ?_
    refine Goes.callS X 0 [0] [] (D_put l Z a0 h0 hw u ll (by (try simp only [List.length_append, List.length_cons, List.length_nil]) <;> omega) _ rfl (34 : Int32) (by decide)) (wd hw 164 rfl) (wd hw 165 rfl) (wd hw 166 rfl) (wd hw 167 rfl) pd_y_29 rfl (st := []) rfl rfl (G := []) rfl rfl ?_
    rintro _ _ ⟨rfl, rfl⟩
    refine ⟨Or.inl rfl, ?_⟩
    refine Goes.run X [(.istore 6, 2), (.iload_n 3, 1)] (L' := #[.val (.ref u), .val (.int (Int32.ofNat ll.length)), .val (.int c0), .val (.int z0), .val (.int c1), .val (.int z1), .val (.int (Int32.ofNat (ll ++ [(34 : Int32)]).length))]) (S' := [.int z0]) (pc' := 10) rfl ?_
    refine Goes.if1 X (pc' := 22) (o := 12) (cd := .ne) (fun q => absurd (q.symm.trans (by simp [ifCond.holds, e0] : ifCond.holds .ne z0 = false)) (by decide)) (fun _ => ?_)
    refine Goes.runS X [(.aload_n 0, 1), (.iload 6, 2), (.iload_n 2, 1)] (S' := [.int c0, .int (Int32.ofNat (ll ++ [(34 : Int32)]).length), .ref u]) (pc' := 17) rfl ?_
    refine Goes.callS X 0 [0] [] (D_put l Z a0 h0 hw u (ll ++ [(34 : Int32)]) (by (try simp only [List.length_append, List.length_cons, List.length_nil]) <;> omega) _ rfl c0 hc0) (wd hw 164 rfl) (wd hw 165 rfl) (wd hw 166 rfl) (wd hw 167 rfl) pd_y_29 rfl (st := []) rfl rfl (G := []) rfl rfl ?_
    rintro _ _ ⟨rfl, rfl⟩
    refine ⟨Or.inl rfl, ?_⟩
    refine Goes.run X [(.istore 6, 2), (.aload_n 0, 1), (.iload 6, 2), (.bipush 34, 2)] (L' := #[.val (.ref u), .val (.int (Int32.ofNat ll.length)), .val (.int c0), .val (.int z0), .val (.int c1), .val (.int z1), .val (.int (Int32.ofNat ((ll ++ [(34 : Int32)]) ++ [c0]).length))]) (S' := [.int (34 : Int32), .int (Int32.ofNat ((ll ++ [(34 : Int32)]) ++ [c0]).length), .ref u]) (pc' := 27) rfl ?_
    refine Goes.callS X 0 [0] [] (D_put l Z a0 h0 hw u ((ll ++ [(34 : Int32)]) ++ [c0]) (by (try simp only [List.length_append, List.length_cons, List.length_nil]) <;> omega) _ rfl (34 : Int32) (by decide)) (wd hw 164 rfl) (wd hw 165 rfl) (wd hw 166 rfl) (wd hw 167 rfl) pd_y_29 rfl (st := []) rfl rfl (G := []) rfl rfl ?_
    rintro _ _ ⟨rfl, rfl⟩
    refine ⟨Or.inl rfl, ?_⟩
    refine Goes.run X [(.istore 6, 2), (.aload_n 0, 1), (.iload 6, 2), (.bipush 58, 2)] (L' := #[.val (.ref u), .val (.int (Int32.ofNat ll.length)), .val (.int c0), .val (.int z0), .val (.int c1), .val (.int z1), .val (.int (Int32.ofNat (((ll ++ [(34 : Int32)]) ++ [c0]) ++ [(34 : Int32)]).length))]) (S' := [.int (58 : Int32), .int (Int32.ofNat (((ll ++ [(34 : Int32)]) ++ [c0]) ++ [(34 : Int32)]).length), .ref u]) (pc' := 37) rfl ?_
    refine Goes.callS X 0 [0] [] (D_put l Z a0 h0 hw u (((ll ++ [(34 : Int32)]) ++ [c0]) ++ [(34 : Int32)]) (by (try simp only [List.length_append, List.length_cons, List.length_nil]) <;> omega) _ rfl (58 : Int32) (by decide)) (wd hw 164 rfl) (wd hw 165 rfl) (wd hw 166 rfl) (wd hw 167 rfl) pd_y_29 rfl (st := []) rfl rfl (G := []) rfl rfl ?_
    rintro _ _ ⟨rfl, rfl⟩
    refine ⟨Or.inl rfl, ?_⟩
    refine Goes.run X [(.istore 6, 2), (.aload_n 0, 1), (.iload 6, 2), (.bipush 34, 2)] (L' := #[.val (.ref u), .val (.int (Int32.ofNat ll.length)), .val (.int c0), .val (.int z0), .val (.int c1), .val (.int z1), .val (.int (Int32.ofNat ((((ll ++ [(34 : Int32)]) ++ [c0]) ++ [(34 : Int32)]) ++ [(58 : Int32)]).length))]) (S' := [.int (34 : Int32), .int (Int32.ofNat ((((ll ++ [(34 : Int32)]) ++ [c0]) ++ [(34 : Int32)]) ++ [(58 : Int32)]).length), .ref u]) (pc' := 47) rfl ?_
    refine Goes.callS X 0 [0] [] (D_put l Z a0 h0 hw u ((((ll ++ [(34 : Int32)]) ++ [c0]) ++ [(34 : Int32)]) ++ [(58 : Int32)]) (by (try simp only [List.length_append, List.length_cons, List.length_nil]) <;> omega) _ rfl (34 : Int32) (by decide)) (wd hw 164 rfl) (wd hw 165 rfl) (wd hw 166 rfl) (wd hw 167 rfl) pd_y_29 rfl (st := []) rfl rfl (G := []) rfl rfl ?_
    rintro _ _ ⟨rfl, rfl⟩
    refine ⟨Or.inl rfl, ?_⟩
    refine Goes.run X [(.istore 6, 2), (.iload 5, 2)] (L' := #[.val (.ref u), .val (.int (Int32.ofNat ll.length)), .val (.int c0), .val (.int z0), .val (.int c1), .val (.int z1), .val (.int (Int32.ofNat (((((ll ++ [(34 : Int32)]) ++ [c0]) ++ [(34 : Int32)]) ++ [(58 : Int32)]) ++ [(34 : Int32)]).length))]) (S' := [.int z1]) (pc' := 54) rfl ?_
    refine Goes.if1 X (pc' := 67) (o := 13) (cd := .ne) (fun _ => ?_) (fun q => absurd (q.symm.trans (by simp [ifCond.holds, e1] : ifCond.holds .ne z1 = true)) (by decide))
    refine Goes.runS X [(.aload_n 0, 1), (.iload 6, 2), (.bipush 34, 2)] (S' := [.int (34 : Int32), .int (Int32.ofNat (((((ll ++ [(34 : Int32)]) ++ [c0]) ++ [(34 : Int32)]) ++ [(58 : Int32)]) ++ [(34 : Int32)]).length), .ref u]) (pc' := 72) rfl ?_
    refine Goes.callS X 0 [0] [] (D_put l Z a0 h0 hw u (((((ll ++ [(34 : Int32)]) ++ [c0]) ++ [(34 : Int32)]) ++ [(58 : Int32)]) ++ [(34 : Int32)]) (by (try simp only [List.length_append, List.length_cons, List.length_nil]) <;> omega) _ rfl (34 : Int32) (by decide)) (wd hw 164 rfl) (wd hw 165 rfl) (wd hw 166 rfl) (wd hw 167 rfl) pd_y_29 rfl (st := []) rfl rfl (G := []) rfl rfl ?_
    rintro _ _ ⟨rfl, rfl⟩
    refine ⟨Or.inl rfl, ?_⟩
    refine Goes.run X [(.istore 6, 2), (.iload 6, 2)] (L' := #[.val (.ref u), .val (.int (Int32.ofNat ll.length)), .val (.int c0), .val (.int z0), .val (.int c1), .val (.int z1), .val (.int (Int32.ofNat ((((((ll ++ [(34 : Int32)]) ++ [c0]) ++ [(34 : Int32)]) ++ [(58 : Int32)]) ++ [(34 : Int32)]) ++ [(34 : Int32)]).length))]) (S' := [.int (Int32.ofNat ((((((ll ++ [(34 : Int32)]) ++ [c0]) ++ [(34 : Int32)]) ++ [(58 : Int32)]) ++ [(34 : Int32)]) ++ [(34 : Int32)]).length)]) (pc' := 79) rfl ?_
    have eP : ((((((ll ++ [(34 : Int32)]) ++ [c0]) ++ [(34 : Int32)]) ++ [(58 : Int32)]) ++ [(34 : Int32)]) ++ [(34 : Int32)]) = (ll ++ own_pr [c0] []) := by simp only [own_pr, List.append_assoc, List.cons_append, List.nil_append]
    refine Goes.retI X (by simp) rfl ?_
    exact ⟨by rw [eP], by rw [eP]; rfl⟩
  · refine Goes.runS X [(.aload_n 0, 1), (.iload_n 1, 1), (.bipush 34, 2)] (S' := [.int (34 : Int32), .int (Int32.ofNat ll.length), .ref u]) (pc' := 4) rfl ?_
    refine Goes.callS X 0 [0] [] (D_put l Z a0 h0 hw u ll (by (try simp only [List.length_append, List.length_cons, List.length_nil]) <;> omega) _ rfl (34 : Int32) (by decide)) (wd hw 164 rfl) (wd hw 165 rfl) (wd hw 166 rfl) (wd hw 167 rfl) pd_y_29 rfl (st := []) rfl rfl (G := []) rfl rfl ?_
    rintro _ _ ⟨rfl, rfl⟩
    refine ⟨Or.inl rfl, ?_⟩
    refine Goes.run X [(.istore 6, 2), (.iload_n 3, 1)] (L' := #[.val (.ref u), .val (.int (Int32.ofNat ll.length)), .val (.int c0), .val (.int z0), .val (.int c1), .val (.int z1), .val (.int (Int32.ofNat (ll ++ [(34 : Int32)]).length))]) (S' := [.int z0]) (pc' := 10) rfl ?_
    refine Goes.if1 X (pc' := 22) (o := 12) (cd := .ne) (fun _ => ?_) (fun q => absurd (q.symm.trans (by simp [ifCond.holds, e0] : ifCond.holds .ne z0 = true)) (by decide))
    refine Goes.runS X [(.aload_n 0, 1), (.iload 6, 2), (.bipush 34, 2)] (S' := [.int (34 : Int32), .int (Int32.ofNat (ll ++ [(34 : Int32)]).length), .ref u]) (pc' := 27) rfl ?_
    refine Goes.callS X 0 [0] [] (D_put l Z a0 h0 hw u (ll ++ [(34 : Int32)]) (by (try simp only [List.length_append, List.length_cons, List.length_nil]) <;> omega) _ rfl (34 : Int32) (by decide)) (wd hw 164 rfl) (wd hw 165 rfl) (wd hw 166 rfl) (wd hw 167 rfl) pd_y_29 rfl (st := []) rfl rfl (G := []) rfl rfl ?_
    rintro _ _ ⟨rfl, rfl⟩
    refine ⟨Or.inl rfl, ?_⟩
    refine Goes.run X [(.istore 6, 2), (.aload_n 0, 1), (.iload 6, 2), (.bipush 58, 2)] (L' := #[.val (.ref u), .val (.int (Int32.ofNat ll.length)), .val (.int c0), .val (.int z0), .val (.int c1), .val (.int z1), .val (.int (Int32.ofNat ((ll ++ [(34 : Int32)]) ++ [(34 : Int32)]).length))]) (S' := [.int (58 : Int32), .int (Int32.ofNat ((ll ++ [(34 : Int32)]) ++ [(34 : Int32)]).length), .ref u]) (pc' := 37) rfl ?_
    refine Goes.callS X 0 [0] [] (D_put l Z a0 h0 hw u ((ll ++ [(34 : Int32)]) ++ [(34 : Int32)]) (by (try simp only [List.length_append, List.length_cons, List.length_nil]) <;> omega) _ rfl (58 : Int32) (by decide)) (wd hw 164 rfl) (wd hw 165 rfl) (wd hw 166 rfl) (wd hw 167 rfl) pd_y_29 rfl (st := []) rfl rfl (G := []) rfl rfl ?_
    rintro _ _ ⟨rfl, rfl⟩
    refine ⟨Or.inl rfl, ?_⟩
    refine Goes.run X [(.istore 6, 2), (.aload_n 0, 1), (.iload 6, 2), (.bipush 34, 2)] (L' := #[.val (.ref u), .val (.int (Int32.ofNat ll.length)), .val (.int c0), .val (.int z0), .val (.int c1), .val (.int z1), .val (.int (Int32.ofNat (((ll ++ [(34 : Int32)]) ++ [(34 : Int32)]) ++ [(58 : Int32)]).length))]) (S' := [.int (34 : Int32), .int (Int32.ofNat (((ll ++ [(34 : Int32)]) ++ [(34 : Int32)]) ++ [(58 : Int32)]).length), .ref u]) (pc' := 47) rfl ?_
    refine Goes.callS X 0 [0] [] (D_put l Z a0 h0 hw u (((ll ++ [(34 : Int32)]) ++ [(34 : Int32)]) ++ [(58 : Int32)]) (by (try simp only [List.length_append, List.length_cons, List.length_nil]) <;> omega) _ rfl (34 : Int32) (by decide)) (wd hw 164 rfl) (wd hw 165 rfl) (wd hw 166 rfl) (wd hw 167 rfl) pd_y_29 rfl (st := []) rfl rfl (G := []) rfl rfl ?_
    rintro _ _ ⟨rfl, rfl⟩
    refine ⟨Or.inl rfl, ?_⟩
    refine Goes.run X [(.istore 6, 2), (.iload 5, 2)] (L' := #[.val (.ref u), .val (.int (Int32.ofNat ll.length)), .val (.int c0), .val (.int z0), .val (.int c1), .val (.int z1), .val (.int (Int32.ofNat ((((ll ++ [(34 : Int32)]) ++ [(34 : Int32)]) ++ [(58 : Int32)]) ++ [(34 : Int32)]).length))]) (S' := [.int z1]) (pc' := 54) rfl ?_
    refine Goes.if1 X (pc' := 67) (o := 13) (cd := .ne) (fun q => absurd (q.symm.trans (by simp [ifCond.holds, e1] : ifCond.holds .ne z1 = false)) (by decide)) (fun _ => ?_)
    refine Goes.runS X [(.aload_n 0, 1), (.iload 6, 2), (.iload 4, 2)] (S' := [.int c1, .int (Int32.ofNat ((((ll ++ [(34 : Int32)]) ++ [(34 : Int32)]) ++ [(58 : Int32)]) ++ [(34 : Int32)]).length), .ref u]) (pc' := 62) rfl ?_
    refine Goes.callS X 0 [0] [] (D_put l Z a0 h0 hw u ((((ll ++ [(34 : Int32)]) ++ [(34 : Int32)]) ++ [(58 : Int32)]) ++ [(34 : Int32)]) (by (try simp only [List.length_append, List.length_cons, List.length_nil]) <;> omega) _ rfl c1 hc1) (wd hw 164 rfl) (wd hw 165 rfl) (wd hw 166 rfl) (wd hw 167 rfl) pd_y_29 rfl (st := []) rfl rfl (G := []) rfl rfl ?_
    rintro _ _ ⟨rfl, rfl⟩
    refine ⟨Or.inl rfl, ?_⟩
    refine Goes.run X [(.istore 6, 2), (.aload_n 0, 1), (.iload 6, 2), (.bipush 34, 2)] (L' := #[.val (.ref u), .val (.int (Int32.ofNat ll.length)), .val (.int c0), .val (.int z0), .val (.int c1), .val (.int z1), .val (.int (Int32.ofNat (((((ll ++ [(34 : Int32)]) ++ [(34 : Int32)]) ++ [(58 : Int32)]) ++ [(34 : Int32)]) ++ [c1]).length))]) (S' := [.int (34 : Int32), .int (Int32.ofNat (((((ll ++ [(34 : Int32)]) ++ [(34 : Int32)]) ++ [(58 : Int32)]) ++ [(34 : Int32)]) ++ [c1]).length), .ref u]) (pc' := 72) rfl ?_
    refine Goes.callS X 0 [0] [] (D_put l Z a0 h0 hw u (((((ll ++ [(34 : Int32)]) ++ [(34 : Int32)]) ++ [(58 : Int32)]) ++ [(34 : Int32)]) ++ [c1]) (by (try simp only [List.length_append, List.length_cons, List.length_nil]) <;> omega) _ rfl (34 : Int32) (by decide)) (wd hw 164 rfl) (wd hw 165 rfl) (wd hw 166 rfl) (wd hw 167 rfl) pd_y_29 rfl (st := []) rfl rfl (G := []) rfl rfl ?_
    rintro _ _ ⟨rfl, rfl⟩
    refine ⟨Or.inl rfl, ?_⟩
    refine Goes.run X [(.istore 6, 2), (.iload 6, 2)] (L' := #[.val (.ref u), .val (.int (Int32.ofNat ll.length)), .val (.int c0), .val (.int z0), .val (.int c1), .val (.int z1), .val (.int (Int32.ofNat ((((((ll ++ [(34 : Int32)]) ++ [(34 : Int32)]) ++ [(58 : Int32)]) ++ [(34 : Int32)]) ++ [c1]) ++ [(34 : Int32)]).length))]) (S' := [.int (Int32.ofNat ((((((ll ++ [(34 : Int32)]) ++ [(34 : Int32)]) ++ [(58 : Int32)]) ++ [(34 : Int32)]) ++ [c1]) ++ [(34 : Int32)]).length)]) (pc' := 79) rfl ?_
    have eP : ((((((ll ++ [(34 : Int32)]) ++ [(34 : Int32)]) ++ [(58 : Int32)]) ++ [(34 : Int32)]) ++ [c1]) ++ [(34 : Int32)]) = (ll ++ own_pr [] [c1]) := by simp only [own_pr, List.append_assoc, List.cons_append, List.nil_append]
    refine Goes.retI X (by simp) rfl ?_
    exact ⟨by rw [eP], by rw [eP]; rfl⟩
  · refine Goes.runS X [(.aload_n 0, 1), (.iload_n 1, 1), (.bipush 34, 2)] (S' := [.int (34 : Int32), .int (Int32.ofNat ll.length), .ref u]) (pc' := 4) rfl ?_
    refine Goes.callS X 0 [0] [] (D_put l Z a0 h0 hw u ll (by (try simp only [List.length_append, List.length_cons, List.length_nil]) <;> omega) _ rfl (34 : Int32) (by decide)) (wd hw 164 rfl) (wd hw 165 rfl) (wd hw 166 rfl) (wd hw 167 rfl) pd_y_29 rfl (st := []) rfl rfl (G := []) rfl rfl ?_
    rintro _ _ ⟨rfl, rfl⟩
    refine ⟨Or.inl rfl, ?_⟩
    refine Goes.run X [(.istore 6, 2), (.iload_n 3, 1)] (L' := #[.val (.ref u), .val (.int (Int32.ofNat ll.length)), .val (.int c0), .val (.int z0), .val (.int c1), .val (.int z1), .val (.int (Int32.ofNat (ll ++ [(34 : Int32)]).length))]) (S' := [.int z0]) (pc' := 10) rfl ?_
    refine Goes.if1 X (pc' := 22) (o := 12) (cd := .ne) (fun _ => ?_) (fun q => absurd (q.symm.trans (by simp [ifCond.holds, e0] : ifCond.holds .ne z0 = true)) (by decide))
    refine Goes.runS X [(.aload_n 0, 1), (.iload 6, 2), (.bipush 34, 2)] (S' := [.int (34 : Int32), .int (Int32.ofNat (ll ++ [(34 : Int32)]).length), .ref u]) (pc' := 27) rfl ?_
    refine Goes.callS X 0 [0] [] (D_put l Z a0 h0 hw u (ll ++ [(34 : Int32)]) (by (try simp only [List.length_append, List.length_cons, List.length_nil]) <;> omega) _ rfl (34 : Int32) (by decide)) (wd hw 164 rfl) (wd hw 165 rfl) (wd hw 166 rfl) (wd hw 167 rfl) pd_y_29 rfl (st := []) rfl rfl (G := []) rfl rfl ?_
    rintro _ _ ⟨rfl, rfl⟩
    refine ⟨Or.inl rfl, ?_⟩
    refine Goes.run X [(.istore 6, 2), (.aload_n 0, 1), (.iload 6, 2), (.bipush 58, 2)] (L' := #[.val (.ref u), .val (.int (Int32.ofNat ll.length)), .val (.int c0), .val (.int z0), .val (.int c1), .val (.int z1), .val (.int (Int32.ofNat ((ll ++ [(34 : Int32)]) ++ [(34 : Int32)]).length))]) (S' := [.int (58 : Int32), .int (Int32.ofNat ((ll ++ [(34 : Int32)]) ++ [(34 : Int32)]).length), .ref u]) (pc' := 37) rfl ?_
    refine Goes.callS X 0 [0] [] (D_put l Z a0 h0 hw u ((ll ++ [(34 : Int32)]) ++ [(34 : Int32)]) (by (try simp only [List.length_append, List.length_cons, List.length_nil]) <;> omega) _ rfl (58 : Int32) (by decide)) (wd hw 164 rfl) (wd hw 165 rfl) (wd hw 166 rfl) (wd hw 167 rfl) pd_y_29 rfl (st := []) rfl rfl (G := []) rfl rfl ?_
    rintro _ _ ⟨rfl, rfl⟩
    refine ⟨Or.inl rfl, ?_⟩
    refine Goes.run X [(.istore 6, 2), (.aload_n 0, 1), (.iload 6, 2), (.bipush 34, 2)] (L' := #[.val (.ref u), .val (.int (Int32.ofNat ll.length)), .val (.int c0), .val (.int z0), .val (.int c1), .val (.int z1), .val (.int (Int32.ofNat (((ll ++ [(34 : Int32)]) ++ [(34 : Int32)]) ++ [(58 : Int32)]).length))]) (S' := [.int (34 : Int32), .int (Int32.ofNat (((ll ++ [(34 : Int32)]) ++ [(34 : Int32)]) ++ [(58 : Int32)]).length), .ref u]) (pc' := 47) rfl ?_
    refine Goes.callS X 0 [0] [] (D_put l Z a0 h0 hw u (((ll ++ [(34 : Int32)]) ++ [(34 : Int32)]) ++ [(58 : Int32)]) (by (try simp only [List.length_append, List.length_cons, List.length_nil]) <;> omega) _ rfl (34 : Int32) (by decide)) (wd hw 164 rfl) (wd hw 165 rfl) (wd hw 166 rfl) (wd hw 167 rfl) pd_y_29 rfl (st := []) rfl rfl (G := []) rfl rfl ?_
    rintro _ _ ⟨rfl, rfl⟩
    refine ⟨Or.inl rfl, ?_⟩
    refine Goes.run X [(.istore 6, 2), (.iload 5, 2)] (L' := #[.val (.ref u), .val (.int (Int32.ofNat ll.length)), .val (.int c0), .val (.int z0), .val (.int c1), .val (.int z1), .val (.int (Int32.ofNat ((((ll ++ [(34 : Int32)]) ++ [(34 : Int32)]) ++ [(58 : Int32)]) ++ [(34 : Int32)]).length))]) (S' := [.int z1]) (pc' := 54) rfl ?_
    refine Goes.if1 X (pc' := 67) (o := 13) (cd := .ne) (fun _ => ?_) (fun q => absurd (q.symm.trans (by simp [ifCond.holds, e1] : ifCond.holds .ne z1 = true)) (by decide))
    refine Goes.runS X [(.aload_n 0, 1), (.iload 6, 2), (.bipush 34, 2)] (S' := [.int (34 : Int32), .int (Int32.ofNat ((((ll ++ [(34 : Int32)]) ++ [(34 : Int32)]) ++ [(58 : Int32)]) ++ [(34 : Int32)]).length), .ref u]) (pc' := 72) rfl ?_
    refine Goes.callS X 0 [0] [] (D_put l Z a0 h0 hw u ((((ll ++ [(34 : Int32)]) ++ [(34 : Int32)]) ++ [(58 : Int32)]) ++ [(34 : Int32)]) (by (try simp only [List.length_append, List.length_cons, List.length_nil]) <;> omega) _ rfl (34 : Int32) (by decide)) (wd hw 164 rfl) (wd hw 165 rfl) (wd hw 166 rfl) (wd hw 167 rfl) pd_y_29 rfl (st := []) rfl rfl (G := []) rfl rfl ?_
    rintro _ _ ⟨rfl, rfl⟩
    refine ⟨Or.inl rfl, ?_⟩
    refine Goes.run X [(.istore 6, 2), (.iload 6, 2)] (L' := #[.val (.ref u), .val (.int (Int32.ofNat ll.length)), .val (.int c0), .val (.int z0), .val (.int c1), .val (.int z1), .val (.int (Int32.ofNat (((((ll ++ [(34 : Int32)]) ++ [(34 : Int32)]) ++ [(58 : Int32)]) ++ [(34 : Int32)]) ++ [(34 : Int32)]).length))]) (S' := [.int (Int32.ofNat (((((ll ++ [(34 : Int32)]) ++ [(34 : Int32)]) ++ [(58 : Int32)]) ++ [(34 : Int32)]) ++ [(34 : Int32)]).length)]) (pc' := 79) rfl ?_
    have eP : (((((ll ++ [(34 : Int32)]) ++ [(34 : Int32)]) ++ [(58 : Int32)]) ++ [(34 : Int32)]) ++ [(34 : Int32)]) = (ll ++ own_pr [] []) := by simp only [own_pr, List.append_assoc, List.cons_append, List.nil_append]
    refine Goes.retI X (by simp) rfl ?_
    exact ⟨by rw [eP], by rw [eP]; rfl⟩
set_option maxRecDepth 65536 in
set_option maxHeartbeats 40000000 in
theorem D_at (l : Launch) (Z : State) (a0 : Array Value) (h0 : Heap) (hw : ∀ d ∈ tables_1, d.before a0 Z = true) (cs : Int32) (hCS : Sta Z h0 "java/lang/String" "COMPACT_STRINGS" "Z" (.int cs)) (hcs : ¬ cs = 0) (sio : Value) (hSIO : Sta Z h0 "jdk/internal/util/Preconditions" "SIOOBE_FORMATTER" "Ljava/util/function/BiFunction;" sio) (hsio : sio.category = 1) (r' t u : Addr) (ll : List Int32) (hl : ll.length ≤ 17) (hall : ∀ c ∈ ll, (oI2b c &&& 255) = c) (i : Int32) (j' : Nat) (hj' : j' < 17) (hi : i = Int32.ofNat j') : Does l Z a0 h0 y_30 method_5_code 4 (some .boolean) ({ frames := 4, cells := 0, slots := 0, locals := 53 } : Room) #[.ref r', .ref u, .int (Int32.ofNat ll.length), .int i] [(r', o_String (.ref t) (.int 0)), (t, oBs (ll.map own_by)), (u, ar "[C" .char (own_padC ll))] (fun r F => r = some (.int 1) ∧ F = [(r', o_String (.ref t) (.int 0)), (t, oBs (ll.map own_by)), (u, ar "[C" .char (own_padC ll))]) := by
  refine Does.mk #[.val (.ref r'), .val (.ref u), .val (.int (Int32.ofNat ll.length)), .val (.int i)] (plainFor_of_name (by decide +kernel)) (fun m => by first | (simp [entryFrame, mkF, argsToLocals, Value.category]; done) | rfl) ?_
  intro p e s m args below meth c h X
  show Goes _ _ _ _ _ _ _ _ _ _ _ _ _ _ _ _ _ _ _ _ [(r', o_String (.ref t) (.int 0)), (t, oBs (ll.map own_by)), (u, ar "[C" .char (own_padC ll))] 0 0 (mkF m 0 #[.val (.ref r'), .val (.ref u), .val (.int (Int32.ofNat ll.length)), .val (.int i)] [])
  subst hi
  show Goes _ _ _ _ _ _ _ _ _ _ _ _ _ _ _ _ _ _ _ _ [(r', o_String (.ref t) (.int 0)), (t, oBs (ll.map own_by)), (u, ar "[C" .char (own_padC ll))] 0 0 (mkF m 0 #[.val (.ref r'), .val (.ref u), .val (.int (Int32.ofNat ll.length)), .val (.int (Int32.ofNat j'))] [])
  have hj := own_jn j' (by omega)
  refine Goes.runS X [(.iload_n 3, 1), (.iload_n 2, 1)] (S' := [.int (Int32.ofNat ll.length), .int (Int32.ofNat j')]) (pc' := 2) rfl ?_
  by_cases g : j' < ll.length
  · refine Goes.if2 X (pc' := 16) (o := 14) (cd := .ge) (fun q => absurd (q.symm.trans (by rw [own_ge j' (by omega) ll.length hl]; simpa using g : if_icmp.holds .ge (Int32.ofNat j') (Int32.ofNat ll.length) = false)) (by decide)) (fun _ => ?_)
    obtain ⟨cj, hcj⟩ : ∃ cj, ll[j']? = some cj := ⟨_, List.getElem?_eq_getElem g⟩
    refine Goes.runS X [(.aload_n 0, 1), (.iload_n 3, 1)] (S' := [.int (Int32.ofNat j'), .ref r']) (pc' := 7) rfl ?_
    refine Goes.callV X 0 0 [0, 1] [2] rfl (D_ca l Z a0 h0 hw cs hCS hcs sio hSIO hsio t 0 0 r' "[B" (ll.map own_by) (Int32.ofNat ll.length) (Int32.ofNat j') j' (own_len _ ll) hj.1 hj.2.1 (own_lt j' (by omega) ll.length hl g) (oI2b cj) (own_by_at hcj)) (wd hw 172 rfl) (wd hw 173 rfl) (wd hw 175 rfl) (wd hw 174 rfl) (own_nf X (wd hw 175 rfl)) (wd hw 3 rfl) (wd hw 176 rfl) pd_y_31 rfl (st := []) rfl rfl (G := [(u, ar "[C" .char (own_padC ll))]) rfl rfl ?_
    rintro _ _ ⟨rfl, rfl⟩
    refine ⟨Or.inr (Or.inr fun _ q => Or.inr (Or.inr q)), ?_⟩
    rw [hall cj (List.mem_of_getElem? hcj)]
    show Goes _ _ _ _ _ _ _ _ _ _ _ _ _ _ _ _ _ _ _ _ [(r', o_String (.ref t) (.int 0)), (t, oBs (ll.map own_by)), (u, ar "[C" .char (own_padC ll))] 0 0 (mkF m 10 #[.val (.ref r'), .val (.ref u), .val (.int (Int32.ofNat ll.length)), .val (.int (Int32.ofNat j'))] [.int cj])
    refine Goes.runS X [(.aload_n 1, 1), (.iload_n 3, 1)] (S' := [.int (Int32.ofNat j'), .ref u, .int cj]) (pc' := 12) rfl ?_
    refine Goes.caload X 2 j' rfl hj.1 hj.2.1 (own_padC_at hcj) ?_
    show Goes _ _ _ _ _ _ _ _ _ _ _ _ _ _ _ _ _ _ _ _ [(r', o_String (.ref t) (.int 0)), (t, oBs (ll.map own_by)), (u, ar "[C" .char (own_padC ll))] 0 0 (mkF m 13 #[.val (.ref r'), .val (.ref u), .val (.int (Int32.ofNat ll.length)), .val (.int (Int32.ofNat j'))] [.int cj, .int cj])
    refine Goes.if2 X (pc' := 20) (o := 7) (cd := .ne) (fun q => absurd (q.symm.trans (by simp [if_icmp.holds] : if_icmp.holds .ne cj cj = false)) (by decide)) (fun _ => ?_)
    refine Goes.runS X [(.iconst 1, 1)] (S' := [.int (1 : Int32)]) (pc' := 17) rfl ?_
    refine Goes.goto X (o := 4) (pc' := 21) ?_
    refine Goes.retI X (by simp) rfl ?_
    exact ⟨rfl, rfl⟩
  · refine Goes.if2 X (pc' := 16) (o := 14) (cd := .ge) (fun _ => ?_) (fun q => absurd (q.symm.trans (by rw [own_ge j' (by omega) ll.length hl]; simpa using g : if_icmp.holds .ge (Int32.ofNat j') (Int32.ofNat ll.length) = true)) (by decide))
    refine Goes.runS X [(.iconst 1, 1)] (S' := [.int (1 : Int32)]) (pc' := 17) rfl ?_
    refine Goes.goto X (o := 4) (pc' := 21) ?_
    refine Goes.retI X (by simp) rfl ?_
    exact ⟨rfl, rfl⟩
theorem own_case3 (r : Int32) (h0 : 0 ≤ r.toInt) (h1 : r.toInt < (3 : Int32).toInt) : r = 0 ∨ r = 1 ∨ r = 2 := by
  have h1' : r.toInt < 3 := h1
  have : r.toInt = 0 ∨ r.toInt = 1 ∨ r.toInt = 2 := by omega
  rcases this with h | h | h <;> simp [← Int32.toInt_inj, h]
theorem own_n3 (x : Int32) : ∃ r : Int32, (x &&& 2147483647) % 3 = r ∧ (r = 0 ∨ r = 1 ∨ r = 2) := ⟨_, rfl, own_case3 _ (own_rem x 3 (by decide)).1 (own_rem x 3 (by decide)).2⟩
theorem own_c255 : ∀ d : Nat, d ≤ 255 → nar .char (Int32.ofNat d) = Int32.ofNat d ∧ Int32.ofNat d ≤ 255 ∧ (oI2b (Int32.ofNat d) &&& 255) = Int32.ofNat d := by decide +kernel
theorem own_ci (z : Int32) : ∃ c : Int32, oI2c (z &&& 255) = c ∧ nar .char c = c ∧ c ≤ 255 ∧ (oI2b c &&& 255) = c := by
  have h := own_mask z 255 (by decide)
  have e : (255 : Int32).toInt = 255 := rfl
  rw [e] at h
  have q : z &&& 255 = Int32.ofNat (z &&& 255).toInt.toNat := by
    apply Int32.toInt_inj.mp
    rw [Int32.toInt_ofNat_of_lt (by omega)]
    omega
  have r := own_c255 (z &&& 255).toInt.toNat (by omega)
  rw [← q] at r
  exact ⟨_, own_i2c h.1 h.2, r⟩
theorem own_mmf {z c : Int32} {mm : List Int32} (h : (z = 0 ∧ mm = [c]) ∨ (¬ z = 0 ∧ mm = [])) (hc : (oI2b c &&& 255) = c) : mm.length ≤ 1 ∧ ∀ x ∈ mm, (oI2b x &&& 255) = x := by
  rcases h with ⟨-, rfl⟩ | ⟨-, rfl⟩
  · exact ⟨Nat.le_refl _, fun x hx => by cases List.mem_singleton.mp hx; exact hc⟩
  · exact ⟨Nat.zero_le _, fun x hx => nomatch hx⟩
theorem own_all2 {P : Int32 → Prop} {la lb : List Int32} (ha : ∀ c ∈ la, P c) (hb : ∀ c ∈ lb, P c) : ∀ c ∈ la ++ lb, P c := fun c h => (List.mem_append.mp h).elim (ha c) (hb c)
abbrev own_P (x : Int32) : Prop := (oI2b x &&& 255) = x
theorem own_pr_all {m0 m1 : List Int32} (h0 : ∀ x ∈ m0, own_P x) (h1 : ∀ x ∈ m1, own_P x) : ∀ x ∈ own_pr m0 m1, own_P x :=
  own_all2 (own_all2 (own_all2 (own_all2 (by decide +kernel) h0) (by decide +kernel)) h1) (by decide +kernel)
theorem own_pr_len (m0 m1 : List Int32) : (own_pr m0 m1).length = m0.length + m1.length + 5 := by
  simp only [own_pr, List.length_append, List.length_cons, List.length_nil]; omega
theorem own_js0_all : ∀ x ∈ own_js0, own_P x := by decide +kernel
theorem own_js1_all {m0 m1 : List Int32} (h0 : ∀ x ∈ m0, own_P x) (h1 : ∀ x ∈ m1, own_P x) : ∀ x ∈ own_js1 m0 m1, own_P x :=
  own_all2 (own_all2 (by decide +kernel) (own_pr_all h0 h1)) (by decide +kernel)
theorem own_js2_all {m0 m1 m2 m3 : List Int32} (h0 : ∀ x ∈ m0, own_P x) (h1 : ∀ x ∈ m1, own_P x) (h2 : ∀ x ∈ m2, own_P x) (h3 : ∀ x ∈ m3, own_P x) : ∀ x ∈ own_js2 m0 m1 m2 m3, own_P x :=
  own_all2 (own_all2 (own_all2 (own_all2 (by decide +kernel) (own_pr_all h0 h1)) (by decide +kernel)) (own_pr_all h2 h3)) (by decide +kernel)
theorem own_js0_len : own_js0.length ≤ 17 := by decide
theorem own_js1_len {m0 m1 : List Int32} (h0 : m0.length ≤ 1) (h1 : m1.length ≤ 1) : (own_js1 m0 m1).length ≤ 17 := by
  simp only [own_js1, own_pr_len, List.length_append, List.length_cons, List.length_nil]; omega
theorem own_js2_len {m0 m1 m2 m3 : List Int32} (h0 : m0.length ≤ 1) (h1 : m1.length ≤ 1) (h2 : m2.length ≤ 1) (h3 : m3.length ≤ 1) : (own_js2 m0 m1 m2 m3).length ≤ 17 := by
  simp only [own_js2, own_pr_len, List.length_append, List.length_cons, List.length_nil]; omega
set_option maxRecDepth 65536 in
set_option maxHeartbeats 40000000 in
theorem D_law (l : Launch) (Z : State) (a0 : Array Value) (h0 : Heap) (hw : ∀ d ∈ tables_1, d.before a0 Z = true) (cs : Int32) (hCS : Sta Z h0 "java/lang/String" "COMPACT_STRINGS" "Z" (.int cs)) (hcs : ¬ cs = 0) (sio : Value) (hSIO : Sta Z h0 "jdk/internal/util/Preconditions" "SIOOBE_FORMATTER" "Ljava/util/function/BiFunction;" sio) (hsio : sio.category = 1) (p0 p1 p2 : Int32) : DoesW l Z a0 own_EL h0 x code maxLocals ret room_1 #[.int p0, .int p1, .int p2] [] (fun v F => v = some (.int 1)) := by
  refine DoesW.mk #[.val (.int p0), .val (.int p1), .val (.int p2), .unset, .unset, .unset, .unset, .unset, .unset, .unset, .unset, .unset, .unset, .unset, .unset, .unset, .unset, .unset, .unset, .unset] (plainFor_of_name (by decide +kernel)) (fun m => by first | (simp [entryFrame, mkF, argsToLocals, Value.category, maxLocals]; done) | rfl) ?_
  intro p e s0 vmS vm0 k0 m args below meth c h X
  show Goes _ _ _ _ _ _ _ _ _ _ _ _ _ _ _ _ _ _ _ _ [] 0 0 (mkF m 0 #[.val (.int p0), .val (.int p1), .val (.int p2), .unset, .unset, .unset, .unset, .unset, .unset, .unset, .unset, .unset, .unset, .unset, .unset, .unset, .unset, .unset, .unset, .unset] [])
  obtain ⟨nn, enn, hnn⟩ := own_n3 p0
  obtain ⟨ch0, ec0, fc0, lc0, mc0⟩ := own_ci p1
  obtain ⟨ch1, ec1, fc1, lc1, mc1⟩ := own_ci (oUshr p1 (8 : Int32))
  obtain ⟨ch2, ec2, fc2, lc2, mc2⟩ := own_ci (oUshr p1 (16 : Int32))
  obtain ⟨ch3, ec3, fc3, lc3, mc3⟩ := own_ci (oUshr p1 (24 : Int32))
  refine Goes.runS X [(.iload_n 0, 1)] (S' := [.int p0]) (pc' := 1) rfl ?_
  refine Goes.ldcI X (wd hw 0 rfl) ?_
  refine Goes.runS X [(.iand, 1), (.iconst 3, 1), (.irem, 1)] (S' := [.int ((p0 &&& (2147483647 : Int32)) % (3 : Int32))]) (pc' := 6) rfl ?_
  rw [enn]
  show Goes _ _ _ _ _ _ _ _ _ _ _ _ _ _ _ _ _ _ _ _ [] 0 0 (mkF m 6 #[.val (.int p0), .val (.int p1), .val (.int p2), .unset, .unset, .unset, .unset, .unset, .unset, .unset, .unset, .unset, .unset, .unset, .unset, .unset, .unset, .unset, .unset, .unset] [.int nn])
  refine Goes.run X [(.istore_n 3, 1), (.iload_n 1, 1), (.sipush 255, 3), (.iand, 1), (.i2c, 1)] (L' := #[.val (.int p0), .val (.int p1), .val (.int p2), .val (.int nn), .unset, .unset, .unset, .unset, .unset, .unset, .unset, .unset, .unset, .unset, .unset, .unset, .unset, .unset, .unset, .unset]) (S' := [.int (oI2c (p1 &&& (255 : Int32)))]) (pc' := 13) rfl ?_
  show Goes _ _ _ _ _ _ _ _ _ _ _ _ _ _ _ _ _ _ _ _ [] 0 0 (mkF m 13 #[.val (.int p0), .val (.int p1), .val (.int p2), .val (.int nn), .unset, .unset, .unset, .unset, .unset, .unset, .unset, .unset, .unset, .unset, .unset, .unset, .unset, .unset, .unset, .unset] [.int (oI2c (p1 &&& (255 : Int32)))])
  rw [ec0]
  show Goes _ _ _ _ _ _ _ _ _ _ _ _ _ _ _ _ _ _ _ _ [] 0 0 (mkF m 13 #[.val (.int p0), .val (.int p1), .val (.int p2), .val (.int nn), .unset, .unset, .unset, .unset, .unset, .unset, .unset, .unset, .unset, .unset, .unset, .unset, .unset, .unset, .unset, .unset] [.int ch0])
  refine Goes.run X [(.istore 4, 2), (.iload_n 1, 1), (.bipush 8, 2), (.iushr, 1), (.sipush 255, 3), (.iand, 1), (.i2c, 1)] (L' := #[.val (.int p0), .val (.int p1), .val (.int p2), .val (.int nn), .val (.int ch0), .unset, .unset, .unset, .unset, .unset, .unset, .unset, .unset, .unset, .unset, .unset, .unset, .unset, .unset, .unset]) (S' := [.int (oI2c ((oUshr p1 (8 : Int32)) &&& (255 : Int32)))]) (pc' := 24) rfl ?_
  show Goes _ _ _ _ _ _ _ _ _ _ _ _ _ _ _ _ _ _ _ _ [] 0 0 (mkF m 24 #[.val (.int p0), .val (.int p1), .val (.int p2), .val (.int nn), .val (.int ch0), .unset, .unset, .unset, .unset, .unset, .unset, .unset, .unset, .unset, .unset, .unset, .unset, .unset, .unset, .unset] [.int (oI2c ((oUshr p1 (8 : Int32)) &&& (255 : Int32)))])
  rw [ec1]
  show Goes _ _ _ _ _ _ _ _ _ _ _ _ _ _ _ _ _ _ _ _ [] 0 0 (mkF m 24 #[.val (.int p0), .val (.int p1), .val (.int p2), .val (.int nn), .val (.int ch0), .unset, .unset, .unset, .unset, .unset, .unset, .unset, .unset, .unset, .unset, .unset, .unset, .unset, .unset, .unset] [.int ch1])
  refine Goes.run X [(.istore 5, 2), (.iload_n 1, 1), (.bipush 16, 2), (.iushr, 1), (.sipush 255, 3), (.iand, 1), (.i2c, 1)] (L' := #[.val (.int p0), .val (.int p1), .val (.int p2), .val (.int nn), .val (.int ch0), .val (.int ch1), .unset, .unset, .unset, .unset, .unset, .unset, .unset, .unset, .unset, .unset, .unset, .unset, .unset, .unset]) (S' := [.int (oI2c ((oUshr p1 (16 : Int32)) &&& (255 : Int32)))]) (pc' := 35) rfl ?_
  show Goes _ _ _ _ _ _ _ _ _ _ _ _ _ _ _ _ _ _ _ _ [] 0 0 (mkF m 35 #[.val (.int p0), .val (.int p1), .val (.int p2), .val (.int nn), .val (.int ch0), .val (.int ch1), .unset, .unset, .unset, .unset, .unset, .unset, .unset, .unset, .unset, .unset, .unset, .unset, .unset, .unset] [.int (oI2c ((oUshr p1 (16 : Int32)) &&& (255 : Int32)))])
  rw [ec2]
  show Goes _ _ _ _ _ _ _ _ _ _ _ _ _ _ _ _ _ _ _ _ [] 0 0 (mkF m 35 #[.val (.int p0), .val (.int p1), .val (.int p2), .val (.int nn), .val (.int ch0), .val (.int ch1), .unset, .unset, .unset, .unset, .unset, .unset, .unset, .unset, .unset, .unset, .unset, .unset, .unset, .unset] [.int ch2])
  refine Goes.run X [(.istore 6, 2), (.iload_n 1, 1), (.bipush 24, 2), (.iushr, 1), (.sipush 255, 3), (.iand, 1), (.i2c, 1)] (L' := #[.val (.int p0), .val (.int p1), .val (.int p2), .val (.int nn), .val (.int ch0), .val (.int ch1), .val (.int ch2), .unset, .unset, .unset, .unset, .unset, .unset, .unset, .unset, .unset, .unset, .unset, .unset, .unset]) (S' := [.int (oI2c ((oUshr p1 (24 : Int32)) &&& (255 : Int32)))]) (pc' := 46) rfl ?_
  show Goes _ _ _ _ _ _ _ _ _ _ _ _ _ _ _ _ _ _ _ _ [] 0 0 (mkF m 46 #[.val (.int p0), .val (.int p1), .val (.int p2), .val (.int nn), .val (.int ch0), .val (.int ch1), .val (.int ch2), .unset, .unset, .unset, .unset, .unset, .unset, .unset, .unset, .unset, .unset, .unset, .unset, .unset] [.int (oI2c ((oUshr p1 (24 : Int32)) &&& (255 : Int32)))])
  rw [ec3]
  show Goes _ _ _ _ _ _ _ _ _ _ _ _ _ _ _ _ _ _ _ _ [] 0 0 (mkF m 46 #[.val (.int p0), .val (.int p1), .val (.int p2), .val (.int nn), .val (.int ch0), .val (.int ch1), .val (.int ch2), .unset, .unset, .unset, .unset, .unset, .unset, .unset, .unset, .unset, .unset, .unset, .unset, .unset] [.int ch3])
  refine Goes.run X [(.istore 7, 2), (.iload_n 2, 1), (.iconst 1, 1), (.iand, 1)] (L' := #[.val (.int p0), .val (.int p1), .val (.int p2), .val (.int nn), .val (.int ch0), .val (.int ch1), .val (.int ch2), .val (.int ch3), .unset, .unset, .unset, .unset, .unset, .unset, .unset, .unset, .unset, .unset, .unset, .unset]) (S' := [.int (p2 &&& (1 : Int32))]) (pc' := 51) rfl ?_
  refine Goes.bool1 X (cd := .eq) (o := 7) (o2 := 4) (pc' := 58) (pc2 := 59) (by decide +kernel) (by decide +kernel) (by decide +kernel) rfl (fun z0 hz0 => ?_)
  show Goes _ _ _ _ _ _ _ _ _ _ _ _ _ _ _ _ _ _ _ _ [] 0 0 (mkF m 59 #[.val (.int p0), .val (.int p1), .val (.int p2), .val (.int nn), .val (.int ch0), .val (.int ch1), .val (.int ch2), .val (.int ch3), .unset, .unset, .unset, .unset, .unset, .unset, .unset, .unset, .unset, .unset, .unset, .unset] [.int z0])
  refine Goes.run X [(.istore 8, 2), (.iload_n 2, 1), (.iconst 2, 1), (.iand, 1)] (L' := #[.val (.int p0), .val (.int p1), .val (.int p2), .val (.int nn), .val (.int ch0), .val (.int ch1), .val (.int ch2), .val (.int ch3), .val (.int z0), .unset, .unset, .unset, .unset, .unset, .unset, .unset, .unset, .unset, .unset, .unset]) (S' := [.int (p2 &&& (2 : Int32))]) (pc' := 64) rfl ?_
  refine Goes.bool1 X (cd := .eq) (o := 7) (o2 := 4) (pc' := 71) (pc2 := 72) (by decide +kernel) (by decide +kernel) (by decide +kernel) rfl (fun z1 hz1 => ?_)
  show Goes _ _ _ _ _ _ _ _ _ _ _ _ _ _ _ _ _ _ _ _ [] 0 0 (mkF m 72 #[.val (.int p0), .val (.int p1), .val (.int p2), .val (.int nn), .val (.int ch0), .val (.int ch1), .val (.int ch2), .val (.int ch3), .val (.int z0), .unset, .unset, .unset, .unset, .unset, .unset, .unset, .unset, .unset, .unset, .unset] [.int z1])
  refine Goes.run X [(.istore 9, 2), (.iload_n 2, 1), (.iconst 4, 1), (.iand, 1)] (L' := #[.val (.int p0), .val (.int p1), .val (.int p2), .val (.int nn), .val (.int ch0), .val (.int ch1), .val (.int ch2), .val (.int ch3), .val (.int z0), .val (.int z1), .unset, .unset, .unset, .unset, .unset, .unset, .unset, .unset, .unset, .unset]) (S' := [.int (p2 &&& (4 : Int32))]) (pc' := 77) rfl ?_
  refine Goes.bool1 X (cd := .eq) (o := 7) (o2 := 4) (pc' := 84) (pc2 := 85) (by decide +kernel) (by decide +kernel) (by decide +kernel) rfl (fun z2 hz2 => ?_)
  show Goes _ _ _ _ _ _ _ _ _ _ _ _ _ _ _ _ _ _ _ _ [] 0 0 (mkF m 85 #[.val (.int p0), .val (.int p1), .val (.int p2), .val (.int nn), .val (.int ch0), .val (.int ch1), .val (.int ch2), .val (.int ch3), .val (.int z0), .val (.int z1), .unset, .unset, .unset, .unset, .unset, .unset, .unset, .unset, .unset, .unset] [.int z2])
  refine Goes.run X [(.istore 10, 2), (.iload_n 2, 1), (.bipush 8, 2), (.iand, 1)] (L' := #[.val (.int p0), .val (.int p1), .val (.int p2), .val (.int nn), .val (.int ch0), .val (.int ch1), .val (.int ch2), .val (.int ch3), .val (.int z0), .val (.int z1), .val (.int z2), .unset, .unset, .unset, .unset, .unset, .unset, .unset, .unset, .unset]) (S' := [.int (p2 &&& (8 : Int32))]) (pc' := 91) rfl ?_
  refine Goes.bool1 X (cd := .eq) (o := 7) (o2 := 4) (pc' := 98) (pc2 := 99) (by decide +kernel) (by decide +kernel) (by decide +kernel) rfl (fun z3 hz3 => ?_)
  show Goes _ _ _ _ _ _ _ _ _ _ _ _ _ _ _ _ _ _ _ _ [] 0 0 (mkF m 99 #[.val (.int p0), .val (.int p1), .val (.int p2), .val (.int nn), .val (.int ch0), .val (.int ch1), .val (.int ch2), .val (.int ch3), .val (.int z0), .val (.int z1), .val (.int z2), .unset, .unset, .unset, .unset, .unset, .unset, .unset, .unset, .unset] [.int z3])
  refine Goes.run X [(.istore 11, 2), (.iload 8, 2)] (L' := #[.val (.int p0), .val (.int p1), .val (.int p2), .val (.int nn), .val (.int ch0), .val (.int ch1), .val (.int ch2), .val (.int ch3), .val (.int z0), .val (.int z1), .val (.int z2), .val (.int z3), .unset, .unset, .unset, .unset, .unset, .unset, .unset, .unset]) (S' := [.int z0]) (pc' := 103) rfl ?_
  have J0 : ∀ (vm0 : Vm) (k0 : Nat) (q0 b0 : Addr) (ts0 tb0 : Nat) (D0 : String) (mm0 : List Int32), Cx p (s0.setVm vm0) m meth c Z x code maxLocals ret → ((z0 = 0 ∧ mm0 = [ch0]) ∨ (¬ z0 = 0 ∧ mm0 = [])) → Goes p l e room_1 (s0.setVm vm0) m args below meth c Z a0 (some (own_EL, vmS, vm0, k0)) s0 h0 h ([] : OHp) room_1.cells room_1.slots (fun v F => v = some (.int 1)) [(q0, ro ts0 (o_String (.ref b0) (.int 0))), (b0, ro tb0 (ar D0 .byte (mm0.map own_by)))] 2 5 (mkF m 116 #[.val (.int p0), .val (.int p1), .val (.int p2), .val (.int nn), .val (.int ch0), .val (.int ch1), .val (.int ch2), .val (.int ch3), .val (.int z0), .val (.int z1), .val (.int z2), .val (.int z3), .unset, .unset, .unset, .unset, .unset, .unset, .unset, .unset] [.ref q0]) := by
    intro vm0 k0 q0 b0 ts0 tb0 D0 mm0 X hq0
    have hf0 := own_mmf hq0 mc0
    refine Goes.run X [(.astore 12, 2), (.iload 9, 2)] (L' := #[.val (.int p0), .val (.int p1), .val (.int p2), .val (.int nn), .val (.int ch0), .val (.int ch1), .val (.int ch2), .val (.int ch3), .val (.int z0), .val (.int z1), .val (.int z2), .val (.int z3), .val (.ref q0), .unset, .unset, .unset, .unset, .unset, .unset, .unset]) (S' := [.int z1]) (pc' := 120) rfl ?_
    have J1 : ∀ (vm0 : Vm) (k0 : Nat) (q1 b1 : Addr) (ts1 tb1 : Nat) (D1 : String) (mm1 : List Int32), Cx p (s0.setVm vm0) m meth c Z x code maxLocals ret → ((z1 = 0 ∧ mm1 = [ch1]) ∨ (¬ z1 = 0 ∧ mm1 = [])) → Goes p l e room_1 (s0.setVm vm0) m args below meth c Z a0 (some (own_EL, vmS, vm0, k0)) s0 h0 h ([] : OHp) room_1.cells room_1.slots (fun v F => v = some (.int 1)) [(q1, ro ts1 (o_String (.ref b1) (.int 0))), (b1, ro tb1 (ar D1 .byte (mm1.map own_by))), (q0, ro ts0 (o_String (.ref b0) (.int 0))), (b0, ro tb0 (ar D0 .byte (mm0.map own_by)))] 4 10 (mkF m 133 #[.val (.int p0), .val (.int p1), .val (.int p2), .val (.int nn), .val (.int ch0), .val (.int ch1), .val (.int ch2), .val (.int ch3), .val (.int z0), .val (.int z1), .val (.int z2), .val (.int z3), .val (.ref q0), .unset, .unset, .unset, .unset, .unset, .unset, .unset] [.ref q1]) := by
      intro vm0 k0 q1 b1 ts1 tb1 D1 mm1 X hq1
      have hf1 := own_mmf hq1 mc1
      refine Goes.run X [(.astore 13, 2), (.iload 10, 2)] (L' := #[.val (.int p0), .val (.int p1), .val (.int p2), .val (.int nn), .val (.int ch0), .val (.int ch1), .val (.int ch2), .val (.int ch3), .val (.int z0), .val (.int z1), .val (.int z2), .val (.int z3), .val (.ref q0), .val (.ref q1), .unset, .unset, .unset, .unset, .unset, .unset]) (S' := [.int z2]) (pc' := 137) rfl ?_
      have J2 : ∀ (vm0 : Vm) (k0 : Nat) (q2 b2 : Addr) (ts2 tb2 : Nat) (D2 : String) (mm2 : List Int32), Cx p (s0.setVm vm0) m meth c Z x code maxLocals ret → ((z2 = 0 ∧ mm2 = [ch2]) ∨ (¬ z2 = 0 ∧ mm2 = [])) → Goes p l e room_1 (s0.setVm vm0) m args below meth c Z a0 (some (own_EL, vmS, vm0, k0)) s0 h0 h ([] : OHp) room_1.cells room_1.slots (fun v F => v = some (.int 1)) [(q2, ro ts2 (o_String (.ref b2) (.int 0))), (b2, ro tb2 (ar D2 .byte (mm2.map own_by))), (q1, ro ts1 (o_String (.ref b1) (.int 0))), (b1, ro tb1 (ar D1 .byte (mm1.map own_by))), (q0, ro ts0 (o_String (.ref b0) (.int 0))), (b0, ro tb0 (ar D0 .byte (mm0.map own_by)))] 6 15 (mkF m 150 #[.val (.int p0), .val (.int p1), .val (.int p2), .val (.int nn), .val (.int ch0), .val (.int ch1), .val (.int ch2), .val (.int ch3), .val (.int z0), .val (.int z1), .val (.int z2), .val (.int z3), .val (.ref q0), .val (.ref q1), .unset, .unset, .unset, .unset, .unset, .unset] [.ref q2]) := by
        intro vm0 k0 q2 b2 ts2 tb2 D2 mm2 X hq2
        have hf2 := own_mmf hq2 mc2
        refine Goes.run X [(.astore 14, 2), (.iload 11, 2)] (L' := #[.val (.int p0), .val (.int p1), .val (.int p2), .val (.int nn), .val (.int ch0), .val (.int ch1), .val (.int ch2), .val (.int ch3), .val (.int z0), .val (.int z1), .val (.int z2), .val (.int z3), .val (.ref q0), .val (.ref q1), .val (.ref q2), .unset, .unset, .unset, .unset, .unset]) (S' := [.int z3]) (pc' := 154) rfl ?_
        have J3 : ∀ (vm0 : Vm) (k0 : Nat) (q3 b3 : Addr) (ts3 tb3 : Nat) (D3 : String) (mm3 : List Int32), Cx p (s0.setVm vm0) m meth c Z x code maxLocals ret → ((z3 = 0 ∧ mm3 = [ch3]) ∨ (¬ z3 = 0 ∧ mm3 = [])) → Goes p l e room_1 (s0.setVm vm0) m args below meth c Z a0 (some (own_EL, vmS, vm0, k0)) s0 h0 h ([] : OHp) room_1.cells room_1.slots (fun v F => v = some (.int 1)) [(q3, ro ts3 (o_String (.ref b3) (.int 0))), (b3, ro tb3 (ar D3 .byte (mm3.map own_by))), (q2, ro ts2 (o_String (.ref b2) (.int 0))), (b2, ro tb2 (ar D2 .byte (mm2.map own_by))), (q1, ro ts1 (o_String (.ref b1) (.int 0))), (b1, ro tb1 (ar D1 .byte (mm1.map own_by))), (q0, ro ts0 (o_String (.ref b0) (.int 0))), (b0, ro tb0 (ar D0 .byte (mm0.map own_by)))] 8 20 (mkF m 167 #[.val (.int p0), .val (.int p1), .val (.int p2), .val (.int nn), .val (.int ch0), .val (.int ch1), .val (.int ch2), .val (.int ch3), .val (.int z0), .val (.int z1), .val (.int z2), .val (.int z3), .val (.ref q0), .val (.ref q1), .val (.ref q2), .unset, .unset, .unset, .unset, .unset] [.ref q3]) := by
          intro vm0 k0 q3 b3 ts3 tb3 D3 mm3 X hq3
          have hf3 := own_mmf hq3 mc3
          refine Goes.run X [(.astore 15, 2), (.iload_n 3, 1)] (L' := #[.val (.int p0), .val (.int p1), .val (.int p2), .val (.int nn), .val (.int ch0), .val (.int ch1), .val (.int ch2), .val (.int ch3), .val (.int z0), .val (.int z1), .val (.int z2), .val (.int z3), .val (.ref q0), .val (.ref q1), .val (.ref q2), .val (.ref q3), .unset, .unset, .unset, .unset]) (S' := [.int nn]) (pc' := 170) rfl ?_
          rcases hnn with rfl | rfl | rfl
          · show Goes _ _ _ _ _ _ _ _ _ _ _ _ _ _ _ _ _ _ _ _ [(q3, ro ts3 (o_String (.ref b3) (.int 0))), (b3, ro tb3 (ar D3 .byte (mm3.map own_by))), (q2, ro ts2 (o_String (.ref b2) (.int 0))), (b2, ro tb2 (ar D2 .byte (mm2.map own_by))), (q1, ro ts1 (o_String (.ref b1) (.int 0))), (b1, ro tb1 (ar D1 .byte (mm1.map own_by))), (q0, ro ts0 (o_String (.ref b0) (.int 0))), (b0, ro tb0 (ar D0 .byte (mm0.map own_by)))] 8 20 (mkF m 170 #[.val (.int p0), .val (.int p1), .val (.int p2), .val (.int (0 : Int32)), .val (.int ch0), .val (.int ch1), .val (.int ch2), .val (.int ch3), .val (.int z0), .val (.int z1), .val (.int z2), .val (.int z3), .val (.ref q0), .val (.ref q1), .val (.ref q2), .val (.ref q3), .unset, .unset, .unset, .unset] [.int (0 : Int32)])
            refine Goes.if1 X (pc' := 182) (o := 12) (cd := .ne) (fun q => absurd q (by decide)) (fun _ => ?_)
            refine Goes.runS X [(.iconst 0, 1)] (S' := [.int (0 : Int32)]) (pc' := 174) rfl ?_
            refine Goes.anewarrO X "[Ljava/lang/String;" 0 0 (wd hw 30 rfl) (wd hw 31 rfl) (by first | rfl | decide +kernel) (by decide) (by decide) (by decide) (fun g43 hOg43 => ?_)
            show Goes _ _ _ _ _ _ _ _ _ _ _ _ _ _ _ _ _ _ _ _ [(q3, ro ts3 (o_String (.ref b3) (.int 0))), (b3, ro tb3 (ar D3 .byte (mm3.map own_by))), (q2, ro ts2 (o_String (.ref b2) (.int 0))), (b2, ro tb2 (ar D2 .byte (mm2.map own_by))), (q1, ro ts1 (o_String (.ref b1) (.int 0))), (b1, ro tb1 (ar D1 .byte (mm1.map own_by))), (q0, ro ts0 (o_String (.ref b0) (.int 0))), (b0, ro tb0 (ar D0 .byte (mm0.map own_by))), (g43, ar "[Ljava/lang/String;" (.object "java/lang/String") [])] 9 20 (mkF m 177 #[.val (.int p0), .val (.int p1), .val (.int p2), .val (.int (0 : Int32)), .val (.int ch0), .val (.int ch1), .val (.int ch2), .val (.int ch3), .val (.int z0), .val (.int z1), .val (.int z2), .val (.int z3), .val (.ref q0), .val (.ref q1), .val (.ref q2), .val (.ref q3), .unset, .unset, .unset, .unset] [.ref g43])
            refine Goes.run X [(.astore 16, 2)] (L' := #[.val (.int p0), .val (.int p1), .val (.int p2), .val (.int (0 : Int32)), .val (.int ch0), .val (.int ch1), .val (.int ch2), .val (.int ch3), .val (.int z0), .val (.int z1), .val (.int z2), .val (.int z3), .val (.ref q0), .val (.ref q1), .val (.ref q2), .val (.ref q3), .val (.ref g43), .unset, .unset, .unset]) (S' := []) (pc' := 179) rfl ?_
            refine Goes.goto X (o := 53) (pc' := 232) ?_
            refine Goes.runS X [(.aload 16, 2)] (S' := [.ref g43]) (pc' := 234) rfl ?_
            refine Goes.callSW X 0 [8] [0, 1, 2, 3, 4, 5, 6, 7] (D_json0 l Z a0 h0 hw cs hCS hcs g43) (wd hw 32 rfl) (wd hw 33 rfl) (wd hw 34 rfl) (wd hw 35 rfl) pd_y_4 rfl (st := []) rfl rfl (G := [(q3, ro ts3 (o_String (.ref b3) (.int 0))), (b3, ro tb3 (ar D3 .byte (mm3.map own_by))), (q2, ro ts2 (o_String (.ref b2) (.int 0))), (b2, ro tb2 (ar D2 .byte (mm2.map own_by))), (q1, ro ts1 (o_String (.ref b1) (.int 0))), (b1, ro tb1 (ar D1 .byte (mm1.map own_by))), (q0, ro ts0 (o_String (.ref b0) (.int 0))), (b0, ro tb0 (ar D0 .byte (mm0.map own_by)))]) rfl rfl ?_
            rintro _ _ vm0 k0 ⟨r44, t45, rfl, rfl⟩ X
            refine ⟨Or.inl rfl, ?_⟩
            refine Goes.sub [0, 1] (G := [(r44, o_String (.ref t45) (.int 0)), (t45, oBs (own_js0.map own_by))]) rfl ?_
            show Goes _ _ _ _ _ _ _ _ _ _ _ _ _ _ _ _ _ _ _ _ [(r44, o_String (.ref t45) (.int 0)), (t45, oBs (own_js0.map own_by))] 15 70 (mkF m 237 #[.val (.int p0), .val (.int p1), .val (.int p2), .val (.int (0 : Int32)), .val (.int ch0), .val (.int ch1), .val (.int ch2), .val (.int ch3), .val (.int z0), .val (.int z1), .val (.int z2), .val (.int z3), .val (.ref q0), .val (.ref q1), .val (.ref q2), .val (.ref q3), .val (.ref g43), .unset, .unset, .unset] [.ref r44])
            refine Goes.run X [(.astore 17, 2), (.bipush 17, 2)] (L' := #[.val (.int p0), .val (.int p1), .val (.int p2), .val (.int (0 : Int32)), .val (.int ch0), .val (.int ch1), .val (.int ch2), .val (.int ch3), .val (.int z0), .val (.int z1), .val (.int z2), .val (.int z3), .val (.ref q0), .val (.ref q1), .val (.ref q2), .val (.ref q3), .val (.ref g43), .val (.ref r44), .unset, .unset]) (S' := [.int (17 : Int32)]) (pc' := 241) rfl ?_
            refine Goes.newarr X (aty := .char) "[C" 17 17 (wd hw 163 rfl) (by decide +kernel) (by decide) (by decide) (fun u46 => ?_)
            show Goes _ _ _ _ _ _ _ _ _ _ _ _ _ _ _ _ _ _ _ _ [(r44, o_String (.ref t45) (.int 0)), (t45, oBs (own_js0.map own_by)), (u46, ar "[C" .char (own_padC ([] : List Int32)))] 16 87 (mkF m 243 #[.val (.int p0), .val (.int p1), .val (.int p2), .val (.int (0 : Int32)), .val (.int ch0), .val (.int ch1), .val (.int ch2), .val (.int ch3), .val (.int z0), .val (.int z1), .val (.int z2), .val (.int z3), .val (.ref q0), .val (.ref q1), .val (.ref q2), .val (.ref q3), .val (.ref g43), .val (.ref r44), .unset, .unset] [.ref u46])
            refine Goes.run X [(.astore 18, 2), (.iconst 0, 1), (.istore 19, 2), (.aload 18, 2), (.iload 19, 2), (.bipush 123, 2)] (L' := #[.val (.int p0), .val (.int p1), .val (.int p2), .val (.int (0 : Int32)), .val (.int ch0), .val (.int ch1), .val (.int ch2), .val (.int ch3), .val (.int z0), .val (.int z1), .val (.int z2), .val (.int z3), .val (.ref q0), .val (.ref q1), .val (.ref q2), .val (.ref q3), .val (.ref g43), .val (.ref r44), .val (.ref u46), .val (.int (0 : Int32))]) (S' := [.int (123 : Int32), .int (0 : Int32), .ref u46]) (pc' := 254) rfl ?_
            refine Goes.callS X 0 [2] [0, 1] (D_put l Z a0 h0 hw u46 ([] : List Int32) (by (try simp only [List.length_append, List.length_cons, List.length_nil]) <;> omega) (0 : Int32) rfl (123 : Int32) (by decide)) (wd hw 164 rfl) (wd hw 165 rfl) (wd hw 166 rfl) (wd hw 167 rfl) pd_y_29 rfl (st := []) rfl rfl (G := [(r44, o_String (.ref t45) (.int 0)), (t45, oBs (own_js0.map own_by))]) rfl rfl ?_
            rintro _ _ ⟨rfl, rfl⟩
            refine ⟨Or.inl rfl, ?_⟩
            refine Goes.run X [(.istore 19, 2), (.iload_n 3, 1), (.iconst 1, 1)] (L' := #[.val (.int p0), .val (.int p1), .val (.int p2), .val (.int (0 : Int32)), .val (.int ch0), .val (.int ch1), .val (.int ch2), .val (.int ch3), .val (.int z0), .val (.int z1), .val (.int z2), .val (.int z3), .val (.ref q0), .val (.ref q1), .val (.ref q2), .val (.ref q3), .val (.ref g43), .val (.ref r44), .val (.ref u46), .val (.int (Int32.ofNat (([] : List Int32) ++ [(123 : Int32)]).length))]) (S' := [.int (1 : Int32), .int (0 : Int32)]) (pc' := 261) rfl ?_
            refine Goes.if2 X (pc' := 281) (o := 20) (cd := .lt) (fun _ => ?_) (fun q => absurd q (by decide))
            refine Goes.runS X [(.iload_n 3, 1), (.iconst 2, 1)] (S' := [.int (2 : Int32), .int (0 : Int32)]) (pc' := 283) rfl ?_
            refine Goes.if2 X (pc' := 314) (o := 31) (cd := .lt) (fun _ => ?_) (fun q => absurd q (by decide))
            refine Goes.runS X [(.aload 18, 2), (.iload 19, 2), (.bipush 125, 2)] (S' := [.int (125 : Int32), .int (Int32.ofNat (([] : List Int32) ++ [(123 : Int32)]).length), .ref u46]) (pc' := 320) rfl ?_
            refine Goes.callS X 0 [0] [1, 2] (D_put l Z a0 h0 hw u46 (([] : List Int32) ++ [(123 : Int32)]) (by (try simp only [own_pr_len, List.length_append, List.length_cons, List.length_nil]) <;> omega) _ rfl (125 : Int32) (by decide)) (wd hw 164 rfl) (wd hw 165 rfl) (wd hw 166 rfl) (wd hw 167 rfl) pd_y_29 rfl (st := []) rfl rfl (G := [(r44, o_String (.ref t45) (.int 0)), (t45, oBs (own_js0.map own_by))]) rfl rfl ?_
            rintro _ _ ⟨rfl, rfl⟩
            refine ⟨Or.inl rfl, ?_⟩
            have eL : ((([] : List Int32) ++ [(123 : Int32)]) ++ [(125 : Int32)]) = own_js0 := rfl
            show Goes _ _ _ _ _ _ _ _ _ _ _ _ _ _ _ _ _ _ _ _ [(u46, ar "[C" .char (own_padC ((([] : List Int32) ++ [(123 : Int32)]) ++ [(125 : Int32)]))), (r44, o_String (.ref t45) (.int 0)), (t45, oBs (own_js0.map own_by))] 16 87 (mkF m 323 #[.val (.int p0), .val (.int p1), .val (.int p2), .val (.int (0 : Int32)), .val (.int ch0), .val (.int ch1), .val (.int ch2), .val (.int ch3), .val (.int z0), .val (.int z1), .val (.int z2), .val (.int z3), .val (.ref q0), .val (.ref q1), .val (.ref q2), .val (.ref q3), .val (.ref g43), .val (.ref r44), .val (.ref u46), .val (.int (Int32.ofNat (([] : List Int32) ++ [(123 : Int32)]).length))] [.int (Int32.ofNat ((([] : List Int32) ++ [(123 : Int32)]) ++ [(125 : Int32)]).length)])
            rw [eL]
            show Goes _ _ _ _ _ _ _ _ _ _ _ _ _ _ _ _ _ _ _ _ [(u46, ar "[C" .char (own_padC own_js0)), (r44, o_String (.ref t45) (.int 0)), (t45, oBs (own_js0.map own_by))] 16 87 (mkF m 323 #[.val (.int p0), .val (.int p1), .val (.int p2), .val (.int (0 : Int32)), .val (.int ch0), .val (.int ch1), .val (.int ch2), .val (.int ch3), .val (.int z0), .val (.int z1), .val (.int z2), .val (.int z3), .val (.ref q0), .val (.ref q1), .val (.ref q2), .val (.ref q3), .val (.ref g43), .val (.ref r44), .val (.ref u46), .val (.int (Int32.ofNat (([] : List Int32) ++ [(123 : Int32)]).length))] [.int (Int32.ofNat own_js0.length)])
            refine Goes.run X [(.istore 19, 2), (.aload 17, 2)] (L' := #[.val (.int p0), .val (.int p1), .val (.int p2), .val (.int (0 : Int32)), .val (.int ch0), .val (.int ch1), .val (.int ch2), .val (.int ch3), .val (.int z0), .val (.int z1), .val (.int z2), .val (.int z3), .val (.ref q0), .val (.ref q1), .val (.ref q2), .val (.ref q3), .val (.ref g43), .val (.ref r44), .val (.ref u46), .val (.int (Int32.ofNat own_js0.length))]) (S' := [.ref r44]) (pc' := 327) rfl ?_
            have hE : own_js0.length ≤ 17 := own_js0_len 
            have hA : ∀ x ∈ own_js0, (oI2b x &&& 255) = x := own_js0_all 
            refine Goes.sub [1, 2, 0] (G := [(r44, o_String (.ref t45) (.int 0)), (t45, oBs (own_js0.map own_by)), (u46, ar "[C" .char (own_padC own_js0))]) rfl ?_
            show Goes _ _ _ _ _ _ _ _ _ _ _ _ _ _ _ _ _ _ _ _ [(r44, o_String (.ref t45) (.int 0)), (t45, oBs (own_js0.map own_by)), (u46, ar "[C" .char (own_padC own_js0))] 16 87 (mkF m 327 #[.val (.int p0), .val (.int p1), .val (.int p2), .val (.int (0 : Int32)), .val (.int ch0), .val (.int ch1), .val (.int ch2), .val (.int ch3), .val (.int z0), .val (.int z1), .val (.int z2), .val (.int z3), .val (.ref q0), .val (.ref q1), .val (.ref q2), .val (.ref q3), .val (.ref g43), .val (.ref r44), .val (.ref u46), .val (.int (Int32.ofNat own_js0.length))] [.ref r44])
            refine Goes.callV X 0 0 [0, 1] [2] rfl (D_slen l Z a0 h0 hw cs hCS hcs r44 t45 0 0 "[B" own_js0 hE) (wd hw 168 rfl) (wd hw 51 rfl) (wd hw 53 rfl) (wd hw 52 rfl) (own_nf X (wd hw 53 rfl)) (wd hw 3 rfl) (wd hw 54 rfl) pd_y_7 rfl (st := []) rfl rfl (G := [(u46, ar "[C" .char (own_padC own_js0))]) rfl rfl ?_
            rintro _ _ ⟨rfl, rfl⟩
            refine ⟨Or.inr (Or.inr fun _ q => Or.inr (Or.inr q)), ?_⟩
            refine Goes.runS X [(.iload 19, 2)] (S' := [.int (Int32.ofNat own_js0.length), .int (Int32.ofNat own_js0.length)]) (pc' := 332) rfl ?_
            refine Goes.if2 X (pc' := 571) (o := 239) (cd := .ne) (fun q => absurd (q.symm.trans (by simp [if_icmp.holds] : if_icmp.holds .ne (Int32.ofNat own_js0.length) (Int32.ofNat own_js0.length) = false)) (by decide)) (fun _ => ?_)
            refine Goes.runS X [(.aload 17, 2), (.aload 18, 2), (.iload 19, 2), (.iconst 0, 1)] (S' := [.int (0 : Int32), .int (Int32.ofNat own_js0.length), .ref u46, .ref r44]) (pc' := 342) rfl ?_
            refine Goes.callS X 0 [0, 1, 2] [] (D_at l Z a0 h0 hw cs hCS hcs sio hSIO hsio r44 t45 u46 own_js0 hE hA (0 : Int32) 0 (by decide) rfl) (wd hw 169 rfl) (wd hw 170 rfl) (wd hw 166 rfl) (wd hw 171 rfl) pd_y_30 rfl (st := []) rfl rfl (G := []) rfl rfl ?_
            rintro _ _ ⟨rfl, rfl⟩
            refine ⟨Or.inr (Or.inr fun _ q => Or.inr (Or.inr q)), ?_⟩
            refine Goes.if1 X (pc' := 571) (o := 226) (cd := .eq) (fun q => absurd q (by decide)) (fun _ => ?_)
            refine Goes.runS X [(.aload 17, 2), (.aload 18, 2), (.iload 19, 2), (.iconst 1, 1)] (S' := [.int (1 : Int32), .int (Int32.ofNat own_js0.length), .ref u46, .ref r44]) (pc' := 355) rfl ?_
            refine Goes.callS X 0 [0, 1, 2] [] (D_at l Z a0 h0 hw cs hCS hcs sio hSIO hsio r44 t45 u46 own_js0 hE hA (1 : Int32) 1 (by decide) rfl) (wd hw 169 rfl) (wd hw 170 rfl) (wd hw 166 rfl) (wd hw 171 rfl) pd_y_30 rfl (st := []) rfl rfl (G := []) rfl rfl ?_
            rintro _ _ ⟨rfl, rfl⟩
            refine ⟨Or.inr (Or.inr fun _ q => Or.inr (Or.inr q)), ?_⟩
            refine Goes.if1 X (pc' := 571) (o := 213) (cd := .eq) (fun q => absurd q (by decide)) (fun _ => ?_)
            refine Goes.runS X [(.aload 17, 2), (.aload 18, 2), (.iload 19, 2), (.iconst 2, 1)] (S' := [.int (2 : Int32), .int (Int32.ofNat own_js0.length), .ref u46, .ref r44]) (pc' := 368) rfl ?_
            refine Goes.callS X 0 [0, 1, 2] [] (D_at l Z a0 h0 hw cs hCS hcs sio hSIO hsio r44 t45 u46 own_js0 hE hA (2 : Int32) 2 (by decide) rfl) (wd hw 169 rfl) (wd hw 170 rfl) (wd hw 166 rfl) (wd hw 171 rfl) pd_y_30 rfl (st := []) rfl rfl (G := []) rfl rfl ?_
            rintro _ _ ⟨rfl, rfl⟩
            refine ⟨Or.inr (Or.inr fun _ q => Or.inr (Or.inr q)), ?_⟩
            refine Goes.if1 X (pc' := 571) (o := 200) (cd := .eq) (fun q => absurd q (by decide)) (fun _ => ?_)
            refine Goes.runS X [(.aload 17, 2), (.aload 18, 2), (.iload 19, 2), (.iconst 3, 1)] (S' := [.int (3 : Int32), .int (Int32.ofNat own_js0.length), .ref u46, .ref r44]) (pc' := 381) rfl ?_
            refine Goes.callS X 0 [0, 1, 2] [] (D_at l Z a0 h0 hw cs hCS hcs sio hSIO hsio r44 t45 u46 own_js0 hE hA (3 : Int32) 3 (by decide) rfl) (wd hw 169 rfl) (wd hw 170 rfl) (wd hw 166 rfl) (wd hw 171 rfl) pd_y_30 rfl (st := []) rfl rfl (G := []) rfl rfl ?_
            rintro _ _ ⟨rfl, rfl⟩
            refine ⟨Or.inr (Or.inr fun _ q => Or.inr (Or.inr q)), ?_⟩
            refine Goes.if1 X (pc' := 571) (o := 187) (cd := .eq) (fun q => absurd q (by decide)) (fun _ => ?_)
            refine Goes.runS X [(.aload 17, 2), (.aload 18, 2), (.iload 19, 2), (.iconst 4, 1)] (S' := [.int (4 : Int32), .int (Int32.ofNat own_js0.length), .ref u46, .ref r44]) (pc' := 394) rfl ?_
            refine Goes.callS X 0 [0, 1, 2] [] (D_at l Z a0 h0 hw cs hCS hcs sio hSIO hsio r44 t45 u46 own_js0 hE hA (4 : Int32) 4 (by decide) rfl) (wd hw 169 rfl) (wd hw 170 rfl) (wd hw 166 rfl) (wd hw 171 rfl) pd_y_30 rfl (st := []) rfl rfl (G := []) rfl rfl ?_
            rintro _ _ ⟨rfl, rfl⟩
            refine ⟨Or.inr (Or.inr fun _ q => Or.inr (Or.inr q)), ?_⟩
            refine Goes.if1 X (pc' := 571) (o := 174) (cd := .eq) (fun q => absurd q (by decide)) (fun _ => ?_)
            refine Goes.runS X [(.aload 17, 2), (.aload 18, 2), (.iload 19, 2), (.iconst 5, 1)] (S' := [.int (5 : Int32), .int (Int32.ofNat own_js0.length), .ref u46, .ref r44]) (pc' := 407) rfl ?_
            refine Goes.callS X 0 [0, 1, 2] [] (D_at l Z a0 h0 hw cs hCS hcs sio hSIO hsio r44 t45 u46 own_js0 hE hA (5 : Int32) 5 (by decide) rfl) (wd hw 169 rfl) (wd hw 170 rfl) (wd hw 166 rfl) (wd hw 171 rfl) pd_y_30 rfl (st := []) rfl rfl (G := []) rfl rfl ?_
            rintro _ _ ⟨rfl, rfl⟩
            refine ⟨Or.inr (Or.inr fun _ q => Or.inr (Or.inr q)), ?_⟩
            refine Goes.if1 X (pc' := 571) (o := 161) (cd := .eq) (fun q => absurd q (by decide)) (fun _ => ?_)
            refine Goes.runS X [(.aload 17, 2), (.aload 18, 2), (.iload 19, 2), (.bipush 6, 2)] (S' := [.int (6 : Int32), .int (Int32.ofNat own_js0.length), .ref u46, .ref r44]) (pc' := 421) rfl ?_
            refine Goes.callS X 0 [0, 1, 2] [] (D_at l Z a0 h0 hw cs hCS hcs sio hSIO hsio r44 t45 u46 own_js0 hE hA (6 : Int32) 6 (by decide) rfl) (wd hw 169 rfl) (wd hw 170 rfl) (wd hw 166 rfl) (wd hw 171 rfl) pd_y_30 rfl (st := []) rfl rfl (G := []) rfl rfl ?_
            rintro _ _ ⟨rfl, rfl⟩
            refine ⟨Or.inr (Or.inr fun _ q => Or.inr (Or.inr q)), ?_⟩
            refine Goes.if1 X (pc' := 571) (o := 147) (cd := .eq) (fun q => absurd q (by decide)) (fun _ => ?_)
            refine Goes.runS X [(.aload 17, 2), (.aload 18, 2), (.iload 19, 2), (.bipush 7, 2)] (S' := [.int (7 : Int32), .int (Int32.ofNat own_js0.length), .ref u46, .ref r44]) (pc' := 435) rfl ?_
            refine Goes.callS X 0 [0, 1, 2] [] (D_at l Z a0 h0 hw cs hCS hcs sio hSIO hsio r44 t45 u46 own_js0 hE hA (7 : Int32) 7 (by decide) rfl) (wd hw 169 rfl) (wd hw 170 rfl) (wd hw 166 rfl) (wd hw 171 rfl) pd_y_30 rfl (st := []) rfl rfl (G := []) rfl rfl ?_
            rintro _ _ ⟨rfl, rfl⟩
            refine ⟨Or.inr (Or.inr fun _ q => Or.inr (Or.inr q)), ?_⟩
            refine Goes.if1 X (pc' := 571) (o := 133) (cd := .eq) (fun q => absurd q (by decide)) (fun _ => ?_)
            refine Goes.runS X [(.aload 17, 2), (.aload 18, 2), (.iload 19, 2), (.bipush 8, 2)] (S' := [.int (8 : Int32), .int (Int32.ofNat own_js0.length), .ref u46, .ref r44]) (pc' := 449) rfl ?_
            refine Goes.callS X 0 [0, 1, 2] [] (D_at l Z a0 h0 hw cs hCS hcs sio hSIO hsio r44 t45 u46 own_js0 hE hA (8 : Int32) 8 (by decide) rfl) (wd hw 169 rfl) (wd hw 170 rfl) (wd hw 166 rfl) (wd hw 171 rfl) pd_y_30 rfl (st := []) rfl rfl (G := []) rfl rfl ?_
            rintro _ _ ⟨rfl, rfl⟩
            refine ⟨Or.inr (Or.inr fun _ q => Or.inr (Or.inr q)), ?_⟩
            refine Goes.if1 X (pc' := 571) (o := 119) (cd := .eq) (fun q => absurd q (by decide)) (fun _ => ?_)
            refine Goes.runS X [(.aload 17, 2), (.aload 18, 2), (.iload 19, 2), (.bipush 9, 2)] (S' := [.int (9 : Int32), .int (Int32.ofNat own_js0.length), .ref u46, .ref r44]) (pc' := 463) rfl ?_
            refine Goes.callS X 0 [0, 1, 2] [] (D_at l Z a0 h0 hw cs hCS hcs sio hSIO hsio r44 t45 u46 own_js0 hE hA (9 : Int32) 9 (by decide) rfl) (wd hw 169 rfl) (wd hw 170 rfl) (wd hw 166 rfl) (wd hw 171 rfl) pd_y_30 rfl (st := []) rfl rfl (G := []) rfl rfl ?_
            rintro _ _ ⟨rfl, rfl⟩
            refine ⟨Or.inr (Or.inr fun _ q => Or.inr (Or.inr q)), ?_⟩
            refine Goes.if1 X (pc' := 571) (o := 105) (cd := .eq) (fun q => absurd q (by decide)) (fun _ => ?_)
            refine Goes.runS X [(.aload 17, 2), (.aload 18, 2), (.iload 19, 2), (.bipush 10, 2)] (S' := [.int (10 : Int32), .int (Int32.ofNat own_js0.length), .ref u46, .ref r44]) (pc' := 477) rfl ?_
            refine Goes.callS X 0 [0, 1, 2] [] (D_at l Z a0 h0 hw cs hCS hcs sio hSIO hsio r44 t45 u46 own_js0 hE hA (10 : Int32) 10 (by decide) rfl) (wd hw 169 rfl) (wd hw 170 rfl) (wd hw 166 rfl) (wd hw 171 rfl) pd_y_30 rfl (st := []) rfl rfl (G := []) rfl rfl ?_
            rintro _ _ ⟨rfl, rfl⟩
            refine ⟨Or.inr (Or.inr fun _ q => Or.inr (Or.inr q)), ?_⟩
            refine Goes.if1 X (pc' := 571) (o := 91) (cd := .eq) (fun q => absurd q (by decide)) (fun _ => ?_)
            refine Goes.runS X [(.aload 17, 2), (.aload 18, 2), (.iload 19, 2), (.bipush 11, 2)] (S' := [.int (11 : Int32), .int (Int32.ofNat own_js0.length), .ref u46, .ref r44]) (pc' := 491) rfl ?_
            refine Goes.callS X 0 [0, 1, 2] [] (D_at l Z a0 h0 hw cs hCS hcs sio hSIO hsio r44 t45 u46 own_js0 hE hA (11 : Int32) 11 (by decide) rfl) (wd hw 169 rfl) (wd hw 170 rfl) (wd hw 166 rfl) (wd hw 171 rfl) pd_y_30 rfl (st := []) rfl rfl (G := []) rfl rfl ?_
            rintro _ _ ⟨rfl, rfl⟩
            refine ⟨Or.inr (Or.inr fun _ q => Or.inr (Or.inr q)), ?_⟩
            refine Goes.if1 X (pc' := 571) (o := 77) (cd := .eq) (fun q => absurd q (by decide)) (fun _ => ?_)
            refine Goes.runS X [(.aload 17, 2), (.aload 18, 2), (.iload 19, 2), (.bipush 12, 2)] (S' := [.int (12 : Int32), .int (Int32.ofNat own_js0.length), .ref u46, .ref r44]) (pc' := 505) rfl ?_
            refine Goes.callS X 0 [0, 1, 2] [] (D_at l Z a0 h0 hw cs hCS hcs sio hSIO hsio r44 t45 u46 own_js0 hE hA (12 : Int32) 12 (by decide) rfl) (wd hw 169 rfl) (wd hw 170 rfl) (wd hw 166 rfl) (wd hw 171 rfl) pd_y_30 rfl (st := []) rfl rfl (G := []) rfl rfl ?_
            rintro _ _ ⟨rfl, rfl⟩
            refine ⟨Or.inr (Or.inr fun _ q => Or.inr (Or.inr q)), ?_⟩
            refine Goes.if1 X (pc' := 571) (o := 63) (cd := .eq) (fun q => absurd q (by decide)) (fun _ => ?_)
            refine Goes.runS X [(.aload 17, 2), (.aload 18, 2), (.iload 19, 2), (.bipush 13, 2)] (S' := [.int (13 : Int32), .int (Int32.ofNat own_js0.length), .ref u46, .ref r44]) (pc' := 519) rfl ?_
            refine Goes.callS X 0 [0, 1, 2] [] (D_at l Z a0 h0 hw cs hCS hcs sio hSIO hsio r44 t45 u46 own_js0 hE hA (13 : Int32) 13 (by decide) rfl) (wd hw 169 rfl) (wd hw 170 rfl) (wd hw 166 rfl) (wd hw 171 rfl) pd_y_30 rfl (st := []) rfl rfl (G := []) rfl rfl ?_
            rintro _ _ ⟨rfl, rfl⟩
            refine ⟨Or.inr (Or.inr fun _ q => Or.inr (Or.inr q)), ?_⟩
            refine Goes.if1 X (pc' := 571) (o := 49) (cd := .eq) (fun q => absurd q (by decide)) (fun _ => ?_)
            refine Goes.runS X [(.aload 17, 2), (.aload 18, 2), (.iload 19, 2), (.bipush 14, 2)] (S' := [.int (14 : Int32), .int (Int32.ofNat own_js0.length), .ref u46, .ref r44]) (pc' := 533) rfl ?_
            refine Goes.callS X 0 [0, 1, 2] [] (D_at l Z a0 h0 hw cs hCS hcs sio hSIO hsio r44 t45 u46 own_js0 hE hA (14 : Int32) 14 (by decide) rfl) (wd hw 169 rfl) (wd hw 170 rfl) (wd hw 166 rfl) (wd hw 171 rfl) pd_y_30 rfl (st := []) rfl rfl (G := []) rfl rfl ?_
            rintro _ _ ⟨rfl, rfl⟩
            refine ⟨Or.inr (Or.inr fun _ q => Or.inr (Or.inr q)), ?_⟩
            refine Goes.if1 X (pc' := 571) (o := 35) (cd := .eq) (fun q => absurd q (by decide)) (fun _ => ?_)
            refine Goes.runS X [(.aload 17, 2), (.aload 18, 2), (.iload 19, 2), (.bipush 15, 2)] (S' := [.int (15 : Int32), .int (Int32.ofNat own_js0.length), .ref u46, .ref r44]) (pc' := 547) rfl ?_
            refine Goes.callS X 0 [0, 1, 2] [] (D_at l Z a0 h0 hw cs hCS hcs sio hSIO hsio r44 t45 u46 own_js0 hE hA (15 : Int32) 15 (by decide) rfl) (wd hw 169 rfl) (wd hw 170 rfl) (wd hw 166 rfl) (wd hw 171 rfl) pd_y_30 rfl (st := []) rfl rfl (G := []) rfl rfl ?_
            rintro _ _ ⟨rfl, rfl⟩
            refine ⟨Or.inr (Or.inr fun _ q => Or.inr (Or.inr q)), ?_⟩
            refine Goes.if1 X (pc' := 571) (o := 21) (cd := .eq) (fun q => absurd q (by decide)) (fun _ => ?_)
            refine Goes.runS X [(.aload 17, 2), (.aload 18, 2), (.iload 19, 2), (.bipush 16, 2)] (S' := [.int (16 : Int32), .int (Int32.ofNat own_js0.length), .ref u46, .ref r44]) (pc' := 561) rfl ?_
            refine Goes.callS X 0 [0, 1, 2] [] (D_at l Z a0 h0 hw cs hCS hcs sio hSIO hsio r44 t45 u46 own_js0 hE hA (16 : Int32) 16 (by decide) rfl) (wd hw 169 rfl) (wd hw 170 rfl) (wd hw 166 rfl) (wd hw 171 rfl) pd_y_30 rfl (st := []) rfl rfl (G := []) rfl rfl ?_
            rintro _ _ ⟨rfl, rfl⟩
            refine ⟨Or.inr (Or.inr fun _ q => Or.inr (Or.inr q)), ?_⟩
            refine Goes.if1 X (pc' := 571) (o := 7) (cd := .eq) (fun q => absurd q (by decide)) (fun _ => ?_)
            refine Goes.runS X [(.iconst 1, 1)] (S' := [.int (1 : Int32)]) (pc' := 568) rfl ?_
            refine Goes.goto X (o := 4) (pc' := 572) ?_
            refine Goes.retI X (by simp) rfl ?_
            exact rfl
          · show Goes _ _ _ _ _ _ _ _ _ _ _ _ _ _ _ _ _ _ _ _ [(q3, ro ts3 (o_String (.ref b3) (.int 0))), (b3, ro tb3 (ar D3 .byte (mm3.map own_by))), (q2, ro ts2 (o_String (.ref b2) (.int 0))), (b2, ro tb2 (ar D2 .byte (mm2.map own_by))), (q1, ro ts1 (o_String (.ref b1) (.int 0))), (b1, ro tb1 (ar D1 .byte (mm1.map own_by))), (q0, ro ts0 (o_String (.ref b0) (.int 0))), (b0, ro tb0 (ar D0 .byte (mm0.map own_by)))] 8 20 (mkF m 170 #[.val (.int p0), .val (.int p1), .val (.int p2), .val (.int (1 : Int32)), .val (.int ch0), .val (.int ch1), .val (.int ch2), .val (.int ch3), .val (.int z0), .val (.int z1), .val (.int z2), .val (.int z3), .val (.ref q0), .val (.ref q1), .val (.ref q2), .val (.ref q3), .unset, .unset, .unset, .unset] [.int (1 : Int32)])
            refine Goes.if1 X (pc' := 182) (o := 12) (cd := .ne) (fun _ => ?_) (fun q => absurd q (by decide))
            refine Goes.runS X [(.iload_n 3, 1), (.iconst 1, 1)] (S' := [.int (1 : Int32), .int (1 : Int32)]) (pc' := 184) rfl ?_
            refine Goes.if2 X (pc' := 206) (o := 22) (cd := .ne) (fun q => absurd q (by decide)) (fun _ => ?_)
            refine Goes.runS X [(.iconst 2, 1)] (S' := [.int (2 : Int32)]) (pc' := 188) rfl ?_
            refine Goes.anewarrO X "[Ljava/lang/String;" 2 2 (wd hw 30 rfl) (wd hw 31 rfl) (by first | rfl | decide +kernel) (by decide) (by decide) (by decide) (fun g47 hOg47 => ?_)
            show Goes _ _ _ _ _ _ _ _ _ _ _ _ _ _ _ _ _ _ _ _ [(q3, ro ts3 (o_String (.ref b3) (.int 0))), (b3, ro tb3 (ar D3 .byte (mm3.map own_by))), (q2, ro ts2 (o_String (.ref b2) (.int 0))), (b2, ro tb2 (ar D2 .byte (mm2.map own_by))), (q1, ro ts1 (o_String (.ref b1) (.int 0))), (b1, ro tb1 (ar D1 .byte (mm1.map own_by))), (q0, ro ts0 (o_String (.ref b0) (.int 0))), (b0, ro tb0 (ar D0 .byte (mm0.map own_by))), (g47, ar "[Ljava/lang/String;" (.object "java/lang/String") [.null, .null])] 9 22 (mkF m 191 #[.val (.int p0), .val (.int p1), .val (.int p2), .val (.int (1 : Int32)), .val (.int ch0), .val (.int ch1), .val (.int ch2), .val (.int ch3), .val (.int z0), .val (.int z1), .val (.int z2), .val (.int z3), .val (.ref q0), .val (.ref q1), .val (.ref q2), .val (.ref q3), .unset, .unset, .unset, .unset] [.ref g47])
            refine Goes.runS X [(.dup, 1), (.iconst 0, 1), (.aload 12, 2)] (S' := [.ref q0, .int (0 : Int32), .ref g47, .ref g47]) (pc' := 195) rfl ?_
            refine Goes.aastore X 8 6 0 hOg47 (wd hw 18 rfl) rfl rfl (by decide) (by decide) (by decide) (Nat.le_of_ble_eq_true rfl) ?_
            show Goes _ _ _ _ _ _ _ _ _ _ _ _ _ _ _ _ _ _ _ _ [(q3, ro ts3 (o_String (.ref b3) (.int 0))), (b3, ro tb3 (ar D3 .byte (mm3.map own_by))), (q2, ro ts2 (o_String (.ref b2) (.int 0))), (b2, ro tb2 (ar D2 .byte (mm2.map own_by))), (q1, ro ts1 (o_String (.ref b1) (.int 0))), (b1, ro tb1 (ar D1 .byte (mm1.map own_by))), (q0, ro ts0 (o_String (.ref b0) (.int 0))), (b0, ro tb0 (ar D0 .byte (mm0.map own_by))), (g47, ar "[Ljava/lang/String;" (.object "java/lang/String") [.ref q0, .null])] 9 22 (mkF m 196 #[.val (.int p0), .val (.int p1), .val (.int p2), .val (.int (1 : Int32)), .val (.int ch0), .val (.int ch1), .val (.int ch2), .val (.int ch3), .val (.int z0), .val (.int z1), .val (.int z2), .val (.int z3), .val (.ref q0), .val (.ref q1), .val (.ref q2), .val (.ref q3), .unset, .unset, .unset, .unset] [.ref g47])
            refine Goes.runS X [(.dup, 1), (.iconst 1, 1), (.aload 13, 2)] (S' := [.ref q1, .int (1 : Int32), .ref g47, .ref g47]) (pc' := 200) rfl ?_
            refine Goes.aastore X 8 4 1 hOg47 (wd hw 18 rfl) rfl rfl (by decide) (by decide) (by decide) (Nat.le_of_ble_eq_true rfl) ?_
            show Goes _ _ _ _ _ _ _ _ _ _ _ _ _ _ _ _ _ _ _ _ [(q3, ro ts3 (o_String (.ref b3) (.int 0))), (b3, ro tb3 (ar D3 .byte (mm3.map own_by))), (q2, ro ts2 (o_String (.ref b2) (.int 0))), (b2, ro tb2 (ar D2 .byte (mm2.map own_by))), (q1, ro ts1 (o_String (.ref b1) (.int 0))), (b1, ro tb1 (ar D1 .byte (mm1.map own_by))), (q0, ro ts0 (o_String (.ref b0) (.int 0))), (b0, ro tb0 (ar D0 .byte (mm0.map own_by))), (g47, ar "[Ljava/lang/String;" (.object "java/lang/String") [.ref q0, .ref q1])] 9 22 (mkF m 201 #[.val (.int p0), .val (.int p1), .val (.int p2), .val (.int (1 : Int32)), .val (.int ch0), .val (.int ch1), .val (.int ch2), .val (.int ch3), .val (.int z0), .val (.int z1), .val (.int z2), .val (.int z3), .val (.ref q0), .val (.ref q1), .val (.ref q2), .val (.ref q3), .unset, .unset, .unset, .unset] [.ref g47])
            refine Goes.run X [(.astore 16, 2)] (L' := #[.val (.int p0), .val (.int p1), .val (.int p2), .val (.int (1 : Int32)), .val (.int ch0), .val (.int ch1), .val (.int ch2), .val (.int ch3), .val (.int z0), .val (.int z1), .val (.int z2), .val (.int z3), .val (.ref q0), .val (.ref q1), .val (.ref q2), .val (.ref q3), .val (.ref g47), .unset, .unset, .unset]) (S' := []) (pc' := 203) rfl ?_
            refine Goes.goto X (o := 29) (pc' := 232) ?_
            refine Goes.runS X [(.aload 16, 2)] (S' := [.ref g47]) (pc' := 234) rfl ?_
            refine Goes.callSW X 0 [8, 6, 7, 4, 5] [0, 1, 2, 3] (D_json1 l Z a0 h0 hw cs hCS hcs g47 q0 b0 ts0 tb0 D0 mm0 hf0.1 q1 b1 ts1 tb1 D1 mm1 hf1.1) (wd hw 32 rfl) (wd hw 33 rfl) (wd hw 34 rfl) (wd hw 35 rfl) pd_y_4 rfl (st := []) rfl rfl (G := [(q3, ro ts3 (o_String (.ref b3) (.int 0))), (b3, ro tb3 (ar D3 .byte (mm3.map own_by))), (q2, ro ts2 (o_String (.ref b2) (.int 0))), (b2, ro tb2 (ar D2 .byte (mm2.map own_by)))]) rfl rfl ?_
            rintro _ _ vm0 k0 ⟨r48, t49, rfl, rfl⟩ X
            refine ⟨Or.inl rfl, ?_⟩
            refine Goes.sub [0, 1] (G := [(r48, o_String (.ref t49) (.int 0)), (t49, oBs ((own_js1 mm0 mm1).map own_by))]) rfl ?_
            show Goes _ _ _ _ _ _ _ _ _ _ _ _ _ _ _ _ _ _ _ _ [(r48, o_String (.ref t49) (.int 0)), (t49, oBs ((own_js1 mm0 mm1).map own_by))] 19 96 (mkF m 237 #[.val (.int p0), .val (.int p1), .val (.int p2), .val (.int (1 : Int32)), .val (.int ch0), .val (.int ch1), .val (.int ch2), .val (.int ch3), .val (.int z0), .val (.int z1), .val (.int z2), .val (.int z3), .val (.ref q0), .val (.ref q1), .val (.ref q2), .val (.ref q3), .val (.ref g47), .unset, .unset, .unset] [.ref r48])
            refine Goes.run X [(.astore 17, 2), (.bipush 17, 2)] (L' := #[.val (.int p0), .val (.int p1), .val (.int p2), .val (.int (1 : Int32)), .val (.int ch0), .val (.int ch1), .val (.int ch2), .val (.int ch3), .val (.int z0), .val (.int z1), .val (.int z2), .val (.int z3), .val (.ref q0), .val (.ref q1), .val (.ref q2), .val (.ref q3), .val (.ref g47), .val (.ref r48), .unset, .unset]) (S' := [.int (17 : Int32)]) (pc' := 241) rfl ?_
            refine Goes.newarr X (aty := .char) "[C" 17 17 (wd hw 163 rfl) (by decide +kernel) (by decide) (by decide) (fun u50 => ?_)
            show Goes _ _ _ _ _ _ _ _ _ _ _ _ _ _ _ _ _ _ _ _ [(r48, o_String (.ref t49) (.int 0)), (t49, oBs ((own_js1 mm0 mm1).map own_by)), (u50, ar "[C" .char (own_padC ([] : List Int32)))] 20 113 (mkF m 243 #[.val (.int p0), .val (.int p1), .val (.int p2), .val (.int (1 : Int32)), .val (.int ch0), .val (.int ch1), .val (.int ch2), .val (.int ch3), .val (.int z0), .val (.int z1), .val (.int z2), .val (.int z3), .val (.ref q0), .val (.ref q1), .val (.ref q2), .val (.ref q3), .val (.ref g47), .val (.ref r48), .unset, .unset] [.ref u50])
            refine Goes.run X [(.astore 18, 2), (.iconst 0, 1), (.istore 19, 2), (.aload 18, 2), (.iload 19, 2), (.bipush 123, 2)] (L' := #[.val (.int p0), .val (.int p1), .val (.int p2), .val (.int (1 : Int32)), .val (.int ch0), .val (.int ch1), .val (.int ch2), .val (.int ch3), .val (.int z0), .val (.int z1), .val (.int z2), .val (.int z3), .val (.ref q0), .val (.ref q1), .val (.ref q2), .val (.ref q3), .val (.ref g47), .val (.ref r48), .val (.ref u50), .val (.int (0 : Int32))]) (S' := [.int (123 : Int32), .int (0 : Int32), .ref u50]) (pc' := 254) rfl ?_
            refine Goes.callS X 0 [2] [0, 1] (D_put l Z a0 h0 hw u50 ([] : List Int32) (by (try simp only [List.length_append, List.length_cons, List.length_nil]) <;> omega) (0 : Int32) rfl (123 : Int32) (by decide)) (wd hw 164 rfl) (wd hw 165 rfl) (wd hw 166 rfl) (wd hw 167 rfl) pd_y_29 rfl (st := []) rfl rfl (G := [(r48, o_String (.ref t49) (.int 0)), (t49, oBs ((own_js1 mm0 mm1).map own_by))]) rfl rfl ?_
            rintro _ _ ⟨rfl, rfl⟩
            refine ⟨Or.inl rfl, ?_⟩
            refine Goes.run X [(.istore 19, 2), (.iload_n 3, 1), (.iconst 1, 1)] (L' := #[.val (.int p0), .val (.int p1), .val (.int p2), .val (.int (1 : Int32)), .val (.int ch0), .val (.int ch1), .val (.int ch2), .val (.int ch3), .val (.int z0), .val (.int z1), .val (.int z2), .val (.int z3), .val (.ref q0), .val (.ref q1), .val (.ref q2), .val (.ref q3), .val (.ref g47), .val (.ref r48), .val (.ref u50), .val (.int (Int32.ofNat (([] : List Int32) ++ [(123 : Int32)]).length))]) (S' := [.int (1 : Int32), .int (1 : Int32)]) (pc' := 261) rfl ?_
            refine Goes.if2 X (pc' := 281) (o := 20) (cd := .lt) (fun q => absurd q (by decide)) (fun _ => ?_)
            refine Goes.runS X [(.aload 18, 2), (.iload 19, 2), (.iload 4, 2), (.iload 8, 2), (.iload 5, 2), (.iload 9, 2)] (S' := [.int z1, .int ch1, .int z0, .int ch0, .int (Int32.ofNat (([] : List Int32) ++ [(123 : Int32)]).length), .ref u50]) (pc' := 276) rfl ?_
            have hg0 := hf0.1
            have hg1 := hf1.1
            refine Goes.callS X 0 [0] [1, 2] (D_pair l Z a0 h0 hw u50 (([] : List Int32) ++ [(123 : Int32)]) (by (try simp only [own_pr_len, List.length_append, List.length_cons, List.length_nil]) <;> omega) ch0 z0 ch1 z1 mm0 mm1 fc0 fc1 hq0 hq1) (wd hw 196 rfl) (wd hw 197 rfl) (wd hw 166 rfl) (wd hw 198 rfl) pd_y_36 rfl (st := []) rfl rfl (G := [(r48, o_String (.ref t49) (.int 0)), (t49, oBs ((own_js1 mm0 mm1).map own_by))]) rfl rfl ?_
            rintro _ _ ⟨rfl, rfl⟩
            refine ⟨Or.inl rfl, ?_⟩
            refine Goes.run X [(.istore 19, 2), (.iload_n 3, 1), (.iconst 2, 1)] (L' := #[.val (.int p0), .val (.int p1), .val (.int p2), .val (.int (1 : Int32)), .val (.int ch0), .val (.int ch1), .val (.int ch2), .val (.int ch3), .val (.int z0), .val (.int z1), .val (.int z2), .val (.int z3), .val (.ref q0), .val (.ref q1), .val (.ref q2), .val (.ref q3), .val (.ref g47), .val (.ref r48), .val (.ref u50), .val (.int (Int32.ofNat ((([] : List Int32) ++ [(123 : Int32)]) ++ own_pr mm0 mm1).length))]) (S' := [.int (2 : Int32), .int (1 : Int32)]) (pc' := 283) rfl ?_
            refine Goes.if2 X (pc' := 314) (o := 31) (cd := .lt) (fun _ => ?_) (fun q => absurd q (by decide))
            refine Goes.runS X [(.aload 18, 2), (.iload 19, 2), (.bipush 125, 2)] (S' := [.int (125 : Int32), .int (Int32.ofNat ((([] : List Int32) ++ [(123 : Int32)]) ++ own_pr mm0 mm1).length), .ref u50]) (pc' := 320) rfl ?_
            refine Goes.callS X 0 [0] [1, 2] (D_put l Z a0 h0 hw u50 ((([] : List Int32) ++ [(123 : Int32)]) ++ own_pr mm0 mm1) (by (try simp only [own_pr_len, List.length_append, List.length_cons, List.length_nil]) <;> omega) _ rfl (125 : Int32) (by decide)) (wd hw 164 rfl) (wd hw 165 rfl) (wd hw 166 rfl) (wd hw 167 rfl) pd_y_29 rfl (st := []) rfl rfl (G := [(r48, o_String (.ref t49) (.int 0)), (t49, oBs ((own_js1 mm0 mm1).map own_by))]) rfl rfl ?_
            rintro _ _ ⟨rfl, rfl⟩
            refine ⟨Or.inl rfl, ?_⟩
            have eL : (((([] : List Int32) ++ [(123 : Int32)]) ++ own_pr mm0 mm1) ++ [(125 : Int32)]) = (own_js1 mm0 mm1) := rfl
            show Goes _ _ _ _ _ _ _ _ _ _ _ _ _ _ _ _ _ _ _ _ [(u50, ar "[C" .char (own_padC (((([] : List Int32) ++ [(123 : Int32)]) ++ own_pr mm0 mm1) ++ [(125 : Int32)]))), (r48, o_String (.ref t49) (.int 0)), (t49, oBs ((own_js1 mm0 mm1).map own_by))] 20 113 (mkF m 323 #[.val (.int p0), .val (.int p1), .val (.int p2), .val (.int (1 : Int32)), .val (.int ch0), .val (.int ch1), .val (.int ch2), .val (.int ch3), .val (.int z0), .val (.int z1), .val (.int z2), .val (.int z3), .val (.ref q0), .val (.ref q1), .val (.ref q2), .val (.ref q3), .val (.ref g47), .val (.ref r48), .val (.ref u50), .val (.int (Int32.ofNat ((([] : List Int32) ++ [(123 : Int32)]) ++ own_pr mm0 mm1).length))] [.int (Int32.ofNat (((([] : List Int32) ++ [(123 : Int32)]) ++ own_pr mm0 mm1) ++ [(125 : Int32)]).length)])
            rw [eL]
            show Goes _ _ _ _ _ _ _ _ _ _ _ _ _ _ _ _ _ _ _ _ [(u50, ar "[C" .char (own_padC (own_js1 mm0 mm1))), (r48, o_String (.ref t49) (.int 0)), (t49, oBs ((own_js1 mm0 mm1).map own_by))] 20 113 (mkF m 323 #[.val (.int p0), .val (.int p1), .val (.int p2), .val (.int (1 : Int32)), .val (.int ch0), .val (.int ch1), .val (.int ch2), .val (.int ch3), .val (.int z0), .val (.int z1), .val (.int z2), .val (.int z3), .val (.ref q0), .val (.ref q1), .val (.ref q2), .val (.ref q3), .val (.ref g47), .val (.ref r48), .val (.ref u50), .val (.int (Int32.ofNat ((([] : List Int32) ++ [(123 : Int32)]) ++ own_pr mm0 mm1).length))] [.int (Int32.ofNat (own_js1 mm0 mm1).length)])
            refine Goes.run X [(.istore 19, 2), (.aload 17, 2)] (L' := #[.val (.int p0), .val (.int p1), .val (.int p2), .val (.int (1 : Int32)), .val (.int ch0), .val (.int ch1), .val (.int ch2), .val (.int ch3), .val (.int z0), .val (.int z1), .val (.int z2), .val (.int z3), .val (.ref q0), .val (.ref q1), .val (.ref q2), .val (.ref q3), .val (.ref g47), .val (.ref r48), .val (.ref u50), .val (.int (Int32.ofNat (own_js1 mm0 mm1).length))]) (S' := [.ref r48]) (pc' := 327) rfl ?_
            have hE : (own_js1 mm0 mm1).length ≤ 17 := own_js1_len hf0.1 hf1.1
            have hA : ∀ x ∈ (own_js1 mm0 mm1), (oI2b x &&& 255) = x := own_js1_all hf0.2 hf1.2
            refine Goes.sub [1, 2, 0] (G := [(r48, o_String (.ref t49) (.int 0)), (t49, oBs ((own_js1 mm0 mm1).map own_by)), (u50, ar "[C" .char (own_padC (own_js1 mm0 mm1)))]) rfl ?_
            show Goes _ _ _ _ _ _ _ _ _ _ _ _ _ _ _ _ _ _ _ _ [(r48, o_String (.ref t49) (.int 0)), (t49, oBs ((own_js1 mm0 mm1).map own_by)), (u50, ar "[C" .char (own_padC (own_js1 mm0 mm1)))] 20 113 (mkF m 327 #[.val (.int p0), .val (.int p1), .val (.int p2), .val (.int (1 : Int32)), .val (.int ch0), .val (.int ch1), .val (.int ch2), .val (.int ch3), .val (.int z0), .val (.int z1), .val (.int z2), .val (.int z3), .val (.ref q0), .val (.ref q1), .val (.ref q2), .val (.ref q3), .val (.ref g47), .val (.ref r48), .val (.ref u50), .val (.int (Int32.ofNat (own_js1 mm0 mm1).length))] [.ref r48])
            refine Goes.callV X 0 0 [0, 1] [2] rfl (D_slen l Z a0 h0 hw cs hCS hcs r48 t49 0 0 "[B" (own_js1 mm0 mm1) hE) (wd hw 168 rfl) (wd hw 51 rfl) (wd hw 53 rfl) (wd hw 52 rfl) (own_nf X (wd hw 53 rfl)) (wd hw 3 rfl) (wd hw 54 rfl) pd_y_7 rfl (st := []) rfl rfl (G := [(u50, ar "[C" .char (own_padC (own_js1 mm0 mm1)))]) rfl rfl ?_
            rintro _ _ ⟨rfl, rfl⟩
            refine ⟨Or.inr (Or.inr fun _ q => Or.inr (Or.inr q)), ?_⟩
            refine Goes.runS X [(.iload 19, 2)] (S' := [.int (Int32.ofNat (own_js1 mm0 mm1).length), .int (Int32.ofNat (own_js1 mm0 mm1).length)]) (pc' := 332) rfl ?_
            refine Goes.if2 X (pc' := 571) (o := 239) (cd := .ne) (fun q => absurd (q.symm.trans (by simp [if_icmp.holds] : if_icmp.holds .ne (Int32.ofNat (own_js1 mm0 mm1).length) (Int32.ofNat (own_js1 mm0 mm1).length) = false)) (by decide)) (fun _ => ?_)
            refine Goes.runS X [(.aload 17, 2), (.aload 18, 2), (.iload 19, 2), (.iconst 0, 1)] (S' := [.int (0 : Int32), .int (Int32.ofNat (own_js1 mm0 mm1).length), .ref u50, .ref r48]) (pc' := 342) rfl ?_
            refine Goes.callS X 0 [0, 1, 2] [] (D_at l Z a0 h0 hw cs hCS hcs sio hSIO hsio r48 t49 u50 (own_js1 mm0 mm1) hE hA (0 : Int32) 0 (by decide) rfl) (wd hw 169 rfl) (wd hw 170 rfl) (wd hw 166 rfl) (wd hw 171 rfl) pd_y_30 rfl (st := []) rfl rfl (G := []) rfl rfl ?_
            rintro _ _ ⟨rfl, rfl⟩
            refine ⟨Or.inr (Or.inr fun _ q => Or.inr (Or.inr q)), ?_⟩
            refine Goes.if1 X (pc' := 571) (o := 226) (cd := .eq) (fun q => absurd q (by decide)) (fun _ => ?_)
            refine Goes.runS X [(.aload 17, 2), (.aload 18, 2), (.iload 19, 2), (.iconst 1, 1)] (S' := [.int (1 : Int32), .int (Int32.ofNat (own_js1 mm0 mm1).length), .ref u50, .ref r48]) (pc' := 355) rfl ?_
            refine Goes.callS X 0 [0, 1, 2] [] (D_at l Z a0 h0 hw cs hCS hcs sio hSIO hsio r48 t49 u50 (own_js1 mm0 mm1) hE hA (1 : Int32) 1 (by decide) rfl) (wd hw 169 rfl) (wd hw 170 rfl) (wd hw 166 rfl) (wd hw 171 rfl) pd_y_30 rfl (st := []) rfl rfl (G := []) rfl rfl ?_
            rintro _ _ ⟨rfl, rfl⟩
            refine ⟨Or.inr (Or.inr fun _ q => Or.inr (Or.inr q)), ?_⟩
            refine Goes.if1 X (pc' := 571) (o := 213) (cd := .eq) (fun q => absurd q (by decide)) (fun _ => ?_)
            refine Goes.runS X [(.aload 17, 2), (.aload 18, 2), (.iload 19, 2), (.iconst 2, 1)] (S' := [.int (2 : Int32), .int (Int32.ofNat (own_js1 mm0 mm1).length), .ref u50, .ref r48]) (pc' := 368) rfl ?_
            refine Goes.callS X 0 [0, 1, 2] [] (D_at l Z a0 h0 hw cs hCS hcs sio hSIO hsio r48 t49 u50 (own_js1 mm0 mm1) hE hA (2 : Int32) 2 (by decide) rfl) (wd hw 169 rfl) (wd hw 170 rfl) (wd hw 166 rfl) (wd hw 171 rfl) pd_y_30 rfl (st := []) rfl rfl (G := []) rfl rfl ?_
            rintro _ _ ⟨rfl, rfl⟩
            refine ⟨Or.inr (Or.inr fun _ q => Or.inr (Or.inr q)), ?_⟩
            refine Goes.if1 X (pc' := 571) (o := 200) (cd := .eq) (fun q => absurd q (by decide)) (fun _ => ?_)
            refine Goes.runS X [(.aload 17, 2), (.aload 18, 2), (.iload 19, 2), (.iconst 3, 1)] (S' := [.int (3 : Int32), .int (Int32.ofNat (own_js1 mm0 mm1).length), .ref u50, .ref r48]) (pc' := 381) rfl ?_
            refine Goes.callS X 0 [0, 1, 2] [] (D_at l Z a0 h0 hw cs hCS hcs sio hSIO hsio r48 t49 u50 (own_js1 mm0 mm1) hE hA (3 : Int32) 3 (by decide) rfl) (wd hw 169 rfl) (wd hw 170 rfl) (wd hw 166 rfl) (wd hw 171 rfl) pd_y_30 rfl (st := []) rfl rfl (G := []) rfl rfl ?_
            rintro _ _ ⟨rfl, rfl⟩
            refine ⟨Or.inr (Or.inr fun _ q => Or.inr (Or.inr q)), ?_⟩
            refine Goes.if1 X (pc' := 571) (o := 187) (cd := .eq) (fun q => absurd q (by decide)) (fun _ => ?_)
            refine Goes.runS X [(.aload 17, 2), (.aload 18, 2), (.iload 19, 2), (.iconst 4, 1)] (S' := [.int (4 : Int32), .int (Int32.ofNat (own_js1 mm0 mm1).length), .ref u50, .ref r48]) (pc' := 394) rfl ?_
            refine Goes.callS X 0 [0, 1, 2] [] (D_at l Z a0 h0 hw cs hCS hcs sio hSIO hsio r48 t49 u50 (own_js1 mm0 mm1) hE hA (4 : Int32) 4 (by decide) rfl) (wd hw 169 rfl) (wd hw 170 rfl) (wd hw 166 rfl) (wd hw 171 rfl) pd_y_30 rfl (st := []) rfl rfl (G := []) rfl rfl ?_
            rintro _ _ ⟨rfl, rfl⟩
            refine ⟨Or.inr (Or.inr fun _ q => Or.inr (Or.inr q)), ?_⟩
            refine Goes.if1 X (pc' := 571) (o := 174) (cd := .eq) (fun q => absurd q (by decide)) (fun _ => ?_)
            refine Goes.runS X [(.aload 17, 2), (.aload 18, 2), (.iload 19, 2), (.iconst 5, 1)] (S' := [.int (5 : Int32), .int (Int32.ofNat (own_js1 mm0 mm1).length), .ref u50, .ref r48]) (pc' := 407) rfl ?_
            refine Goes.callS X 0 [0, 1, 2] [] (D_at l Z a0 h0 hw cs hCS hcs sio hSIO hsio r48 t49 u50 (own_js1 mm0 mm1) hE hA (5 : Int32) 5 (by decide) rfl) (wd hw 169 rfl) (wd hw 170 rfl) (wd hw 166 rfl) (wd hw 171 rfl) pd_y_30 rfl (st := []) rfl rfl (G := []) rfl rfl ?_
            rintro _ _ ⟨rfl, rfl⟩
            refine ⟨Or.inr (Or.inr fun _ q => Or.inr (Or.inr q)), ?_⟩
            refine Goes.if1 X (pc' := 571) (o := 161) (cd := .eq) (fun q => absurd q (by decide)) (fun _ => ?_)
            refine Goes.runS X [(.aload 17, 2), (.aload 18, 2), (.iload 19, 2), (.bipush 6, 2)] (S' := [.int (6 : Int32), .int (Int32.ofNat (own_js1 mm0 mm1).length), .ref u50, .ref r48]) (pc' := 421) rfl ?_
            refine Goes.callS X 0 [0, 1, 2] [] (D_at l Z a0 h0 hw cs hCS hcs sio hSIO hsio r48 t49 u50 (own_js1 mm0 mm1) hE hA (6 : Int32) 6 (by decide) rfl) (wd hw 169 rfl) (wd hw 170 rfl) (wd hw 166 rfl) (wd hw 171 rfl) pd_y_30 rfl (st := []) rfl rfl (G := []) rfl rfl ?_
            rintro _ _ ⟨rfl, rfl⟩
            refine ⟨Or.inr (Or.inr fun _ q => Or.inr (Or.inr q)), ?_⟩
            refine Goes.if1 X (pc' := 571) (o := 147) (cd := .eq) (fun q => absurd q (by decide)) (fun _ => ?_)
            refine Goes.runS X [(.aload 17, 2), (.aload 18, 2), (.iload 19, 2), (.bipush 7, 2)] (S' := [.int (7 : Int32), .int (Int32.ofNat (own_js1 mm0 mm1).length), .ref u50, .ref r48]) (pc' := 435) rfl ?_
            refine Goes.callS X 0 [0, 1, 2] [] (D_at l Z a0 h0 hw cs hCS hcs sio hSIO hsio r48 t49 u50 (own_js1 mm0 mm1) hE hA (7 : Int32) 7 (by decide) rfl) (wd hw 169 rfl) (wd hw 170 rfl) (wd hw 166 rfl) (wd hw 171 rfl) pd_y_30 rfl (st := []) rfl rfl (G := []) rfl rfl ?_
            rintro _ _ ⟨rfl, rfl⟩
            refine ⟨Or.inr (Or.inr fun _ q => Or.inr (Or.inr q)), ?_⟩
            refine Goes.if1 X (pc' := 571) (o := 133) (cd := .eq) (fun q => absurd q (by decide)) (fun _ => ?_)
            refine Goes.runS X [(.aload 17, 2), (.aload 18, 2), (.iload 19, 2), (.bipush 8, 2)] (S' := [.int (8 : Int32), .int (Int32.ofNat (own_js1 mm0 mm1).length), .ref u50, .ref r48]) (pc' := 449) rfl ?_
            refine Goes.callS X 0 [0, 1, 2] [] (D_at l Z a0 h0 hw cs hCS hcs sio hSIO hsio r48 t49 u50 (own_js1 mm0 mm1) hE hA (8 : Int32) 8 (by decide) rfl) (wd hw 169 rfl) (wd hw 170 rfl) (wd hw 166 rfl) (wd hw 171 rfl) pd_y_30 rfl (st := []) rfl rfl (G := []) rfl rfl ?_
            rintro _ _ ⟨rfl, rfl⟩
            refine ⟨Or.inr (Or.inr fun _ q => Or.inr (Or.inr q)), ?_⟩
            refine Goes.if1 X (pc' := 571) (o := 119) (cd := .eq) (fun q => absurd q (by decide)) (fun _ => ?_)
            refine Goes.runS X [(.aload 17, 2), (.aload 18, 2), (.iload 19, 2), (.bipush 9, 2)] (S' := [.int (9 : Int32), .int (Int32.ofNat (own_js1 mm0 mm1).length), .ref u50, .ref r48]) (pc' := 463) rfl ?_
            refine Goes.callS X 0 [0, 1, 2] [] (D_at l Z a0 h0 hw cs hCS hcs sio hSIO hsio r48 t49 u50 (own_js1 mm0 mm1) hE hA (9 : Int32) 9 (by decide) rfl) (wd hw 169 rfl) (wd hw 170 rfl) (wd hw 166 rfl) (wd hw 171 rfl) pd_y_30 rfl (st := []) rfl rfl (G := []) rfl rfl ?_
            rintro _ _ ⟨rfl, rfl⟩
            refine ⟨Or.inr (Or.inr fun _ q => Or.inr (Or.inr q)), ?_⟩
            refine Goes.if1 X (pc' := 571) (o := 105) (cd := .eq) (fun q => absurd q (by decide)) (fun _ => ?_)
            refine Goes.runS X [(.aload 17, 2), (.aload 18, 2), (.iload 19, 2), (.bipush 10, 2)] (S' := [.int (10 : Int32), .int (Int32.ofNat (own_js1 mm0 mm1).length), .ref u50, .ref r48]) (pc' := 477) rfl ?_
            refine Goes.callS X 0 [0, 1, 2] [] (D_at l Z a0 h0 hw cs hCS hcs sio hSIO hsio r48 t49 u50 (own_js1 mm0 mm1) hE hA (10 : Int32) 10 (by decide) rfl) (wd hw 169 rfl) (wd hw 170 rfl) (wd hw 166 rfl) (wd hw 171 rfl) pd_y_30 rfl (st := []) rfl rfl (G := []) rfl rfl ?_
            rintro _ _ ⟨rfl, rfl⟩
            refine ⟨Or.inr (Or.inr fun _ q => Or.inr (Or.inr q)), ?_⟩
            refine Goes.if1 X (pc' := 571) (o := 91) (cd := .eq) (fun q => absurd q (by decide)) (fun _ => ?_)
            refine Goes.runS X [(.aload 17, 2), (.aload 18, 2), (.iload 19, 2), (.bipush 11, 2)] (S' := [.int (11 : Int32), .int (Int32.ofNat (own_js1 mm0 mm1).length), .ref u50, .ref r48]) (pc' := 491) rfl ?_
            refine Goes.callS X 0 [0, 1, 2] [] (D_at l Z a0 h0 hw cs hCS hcs sio hSIO hsio r48 t49 u50 (own_js1 mm0 mm1) hE hA (11 : Int32) 11 (by decide) rfl) (wd hw 169 rfl) (wd hw 170 rfl) (wd hw 166 rfl) (wd hw 171 rfl) pd_y_30 rfl (st := []) rfl rfl (G := []) rfl rfl ?_
            rintro _ _ ⟨rfl, rfl⟩
            refine ⟨Or.inr (Or.inr fun _ q => Or.inr (Or.inr q)), ?_⟩
            refine Goes.if1 X (pc' := 571) (o := 77) (cd := .eq) (fun q => absurd q (by decide)) (fun _ => ?_)
            refine Goes.runS X [(.aload 17, 2), (.aload 18, 2), (.iload 19, 2), (.bipush 12, 2)] (S' := [.int (12 : Int32), .int (Int32.ofNat (own_js1 mm0 mm1).length), .ref u50, .ref r48]) (pc' := 505) rfl ?_
            refine Goes.callS X 0 [0, 1, 2] [] (D_at l Z a0 h0 hw cs hCS hcs sio hSIO hsio r48 t49 u50 (own_js1 mm0 mm1) hE hA (12 : Int32) 12 (by decide) rfl) (wd hw 169 rfl) (wd hw 170 rfl) (wd hw 166 rfl) (wd hw 171 rfl) pd_y_30 rfl (st := []) rfl rfl (G := []) rfl rfl ?_
            rintro _ _ ⟨rfl, rfl⟩
            refine ⟨Or.inr (Or.inr fun _ q => Or.inr (Or.inr q)), ?_⟩
            refine Goes.if1 X (pc' := 571) (o := 63) (cd := .eq) (fun q => absurd q (by decide)) (fun _ => ?_)
            refine Goes.runS X [(.aload 17, 2), (.aload 18, 2), (.iload 19, 2), (.bipush 13, 2)] (S' := [.int (13 : Int32), .int (Int32.ofNat (own_js1 mm0 mm1).length), .ref u50, .ref r48]) (pc' := 519) rfl ?_
            refine Goes.callS X 0 [0, 1, 2] [] (D_at l Z a0 h0 hw cs hCS hcs sio hSIO hsio r48 t49 u50 (own_js1 mm0 mm1) hE hA (13 : Int32) 13 (by decide) rfl) (wd hw 169 rfl) (wd hw 170 rfl) (wd hw 166 rfl) (wd hw 171 rfl) pd_y_30 rfl (st := []) rfl rfl (G := []) rfl rfl ?_
            rintro _ _ ⟨rfl, rfl⟩
            refine ⟨Or.inr (Or.inr fun _ q => Or.inr (Or.inr q)), ?_⟩
            refine Goes.if1 X (pc' := 571) (o := 49) (cd := .eq) (fun q => absurd q (by decide)) (fun _ => ?_)
            refine Goes.runS X [(.aload 17, 2), (.aload 18, 2), (.iload 19, 2), (.bipush 14, 2)] (S' := [.int (14 : Int32), .int (Int32.ofNat (own_js1 mm0 mm1).length), .ref u50, .ref r48]) (pc' := 533) rfl ?_
            refine Goes.callS X 0 [0, 1, 2] [] (D_at l Z a0 h0 hw cs hCS hcs sio hSIO hsio r48 t49 u50 (own_js1 mm0 mm1) hE hA (14 : Int32) 14 (by decide) rfl) (wd hw 169 rfl) (wd hw 170 rfl) (wd hw 166 rfl) (wd hw 171 rfl) pd_y_30 rfl (st := []) rfl rfl (G := []) rfl rfl ?_
            rintro _ _ ⟨rfl, rfl⟩
            refine ⟨Or.inr (Or.inr fun _ q => Or.inr (Or.inr q)), ?_⟩
            refine Goes.if1 X (pc' := 571) (o := 35) (cd := .eq) (fun q => absurd q (by decide)) (fun _ => ?_)
            refine Goes.runS X [(.aload 17, 2), (.aload 18, 2), (.iload 19, 2), (.bipush 15, 2)] (S' := [.int (15 : Int32), .int (Int32.ofNat (own_js1 mm0 mm1).length), .ref u50, .ref r48]) (pc' := 547) rfl ?_
            refine Goes.callS X 0 [0, 1, 2] [] (D_at l Z a0 h0 hw cs hCS hcs sio hSIO hsio r48 t49 u50 (own_js1 mm0 mm1) hE hA (15 : Int32) 15 (by decide) rfl) (wd hw 169 rfl) (wd hw 170 rfl) (wd hw 166 rfl) (wd hw 171 rfl) pd_y_30 rfl (st := []) rfl rfl (G := []) rfl rfl ?_
            rintro _ _ ⟨rfl, rfl⟩
            refine ⟨Or.inr (Or.inr fun _ q => Or.inr (Or.inr q)), ?_⟩
            refine Goes.if1 X (pc' := 571) (o := 21) (cd := .eq) (fun q => absurd q (by decide)) (fun _ => ?_)
            refine Goes.runS X [(.aload 17, 2), (.aload 18, 2), (.iload 19, 2), (.bipush 16, 2)] (S' := [.int (16 : Int32), .int (Int32.ofNat (own_js1 mm0 mm1).length), .ref u50, .ref r48]) (pc' := 561) rfl ?_
            refine Goes.callS X 0 [0, 1, 2] [] (D_at l Z a0 h0 hw cs hCS hcs sio hSIO hsio r48 t49 u50 (own_js1 mm0 mm1) hE hA (16 : Int32) 16 (by decide) rfl) (wd hw 169 rfl) (wd hw 170 rfl) (wd hw 166 rfl) (wd hw 171 rfl) pd_y_30 rfl (st := []) rfl rfl (G := []) rfl rfl ?_
            rintro _ _ ⟨rfl, rfl⟩
            refine ⟨Or.inr (Or.inr fun _ q => Or.inr (Or.inr q)), ?_⟩
            refine Goes.if1 X (pc' := 571) (o := 7) (cd := .eq) (fun q => absurd q (by decide)) (fun _ => ?_)
            refine Goes.runS X [(.iconst 1, 1)] (S' := [.int (1 : Int32)]) (pc' := 568) rfl ?_
            refine Goes.goto X (o := 4) (pc' := 572) ?_
            refine Goes.retI X (by simp) rfl ?_
            exact rfl
          · show Goes _ _ _ _ _ _ _ _ _ _ _ _ _ _ _ _ _ _ _ _ [(q3, ro ts3 (o_String (.ref b3) (.int 0))), (b3, ro tb3 (ar D3 .byte (mm3.map own_by))), (q2, ro ts2 (o_String (.ref b2) (.int 0))), (b2, ro tb2 (ar D2 .byte (mm2.map own_by))), (q1, ro ts1 (o_String (.ref b1) (.int 0))), (b1, ro tb1 (ar D1 .byte (mm1.map own_by))), (q0, ro ts0 (o_String (.ref b0) (.int 0))), (b0, ro tb0 (ar D0 .byte (mm0.map own_by)))] 8 20 (mkF m 170 #[.val (.int p0), .val (.int p1), .val (.int p2), .val (.int (2 : Int32)), .val (.int ch0), .val (.int ch1), .val (.int ch2), .val (.int ch3), .val (.int z0), .val (.int z1), .val (.int z2), .val (.int z3), .val (.ref q0), .val (.ref q1), .val (.ref q2), .val (.ref q3), .unset, .unset, .unset, .unset] [.int (2 : Int32)])
            refine Goes.if1 X (pc' := 182) (o := 12) (cd := .ne) (fun _ => ?_) (fun q => absurd q (by decide))
            refine Goes.runS X [(.iload_n 3, 1), (.iconst 1, 1)] (S' := [.int (1 : Int32), .int (2 : Int32)]) (pc' := 184) rfl ?_
            refine Goes.if2 X (pc' := 206) (o := 22) (cd := .ne) (fun _ => ?_) (fun q => absurd q (by decide))
            refine Goes.runS X [(.iconst 4, 1)] (S' := [.int (4 : Int32)]) (pc' := 207) rfl ?_
            refine Goes.anewarrO X "[Ljava/lang/String;" 4 4 (wd hw 30 rfl) (wd hw 31 rfl) (by first | rfl | decide +kernel) (by decide) (by decide) (by decide) (fun g51 hOg51 => ?_)
            show Goes _ _ _ _ _ _ _ _ _ _ _ _ _ _ _ _ _ _ _ _ [(q3, ro ts3 (o_String (.ref b3) (.int 0))), (b3, ro tb3 (ar D3 .byte (mm3.map own_by))), (q2, ro ts2 (o_String (.ref b2) (.int 0))), (b2, ro tb2 (ar D2 .byte (mm2.map own_by))), (q1, ro ts1 (o_String (.ref b1) (.int 0))), (b1, ro tb1 (ar D1 .byte (mm1.map own_by))), (q0, ro ts0 (o_String (.ref b0) (.int 0))), (b0, ro tb0 (ar D0 .byte (mm0.map own_by))), (g51, ar "[Ljava/lang/String;" (.object "java/lang/String") [.null, .null, .null, .null])] 9 24 (mkF m 210 #[.val (.int p0), .val (.int p1), .val (.int p2), .val (.int (2 : Int32)), .val (.int ch0), .val (.int ch1), .val (.int ch2), .val (.int ch3), .val (.int z0), .val (.int z1), .val (.int z2), .val (.int z3), .val (.ref q0), .val (.ref q1), .val (.ref q2), .val (.ref q3), .unset, .unset, .unset, .unset] [.ref g51])
            refine Goes.runS X [(.dup, 1), (.iconst 0, 1), (.aload 12, 2)] (S' := [.ref q0, .int (0 : Int32), .ref g51, .ref g51]) (pc' := 214) rfl ?_
            refine Goes.aastore X 8 6 0 hOg51 (wd hw 18 rfl) rfl rfl (by decide) (by decide) (by decide) (Nat.le_of_ble_eq_true rfl) ?_
            show Goes _ _ _ _ _ _ _ _ _ _ _ _ _ _ _ _ _ _ _ _ [(q3, ro ts3 (o_String (.ref b3) (.int 0))), (b3, ro tb3 (ar D3 .byte (mm3.map own_by))), (q2, ro ts2 (o_String (.ref b2) (.int 0))), (b2, ro tb2 (ar D2 .byte (mm2.map own_by))), (q1, ro ts1 (o_String (.ref b1) (.int 0))), (b1, ro tb1 (ar D1 .byte (mm1.map own_by))), (q0, ro ts0 (o_String (.ref b0) (.int 0))), (b0, ro tb0 (ar D0 .byte (mm0.map own_by))), (g51, ar "[Ljava/lang/String;" (.object "java/lang/String") [.ref q0, .null, .null, .null])] 9 24 (mkF m 215 #[.val (.int p0), .val (.int p1), .val (.int p2), .val (.int (2 : Int32)), .val (.int ch0), .val (.int ch1), .val (.int ch2), .val (.int ch3), .val (.int z0), .val (.int z1), .val (.int z2), .val (.int z3), .val (.ref q0), .val (.ref q1), .val (.ref q2), .val (.ref q3), .unset, .unset, .unset, .unset] [.ref g51])
            refine Goes.runS X [(.dup, 1), (.iconst 1, 1), (.aload 13, 2)] (S' := [.ref q1, .int (1 : Int32), .ref g51, .ref g51]) (pc' := 219) rfl ?_
            refine Goes.aastore X 8 4 1 hOg51 (wd hw 18 rfl) rfl rfl (by decide) (by decide) (by decide) (Nat.le_of_ble_eq_true rfl) ?_
            show Goes _ _ _ _ _ _ _ _ _ _ _ _ _ _ _ _ _ _ _ _ [(q3, ro ts3 (o_String (.ref b3) (.int 0))), (b3, ro tb3 (ar D3 .byte (mm3.map own_by))), (q2, ro ts2 (o_String (.ref b2) (.int 0))), (b2, ro tb2 (ar D2 .byte (mm2.map own_by))), (q1, ro ts1 (o_String (.ref b1) (.int 0))), (b1, ro tb1 (ar D1 .byte (mm1.map own_by))), (q0, ro ts0 (o_String (.ref b0) (.int 0))), (b0, ro tb0 (ar D0 .byte (mm0.map own_by))), (g51, ar "[Ljava/lang/String;" (.object "java/lang/String") [.ref q0, .ref q1, .null, .null])] 9 24 (mkF m 220 #[.val (.int p0), .val (.int p1), .val (.int p2), .val (.int (2 : Int32)), .val (.int ch0), .val (.int ch1), .val (.int ch2), .val (.int ch3), .val (.int z0), .val (.int z1), .val (.int z2), .val (.int z3), .val (.ref q0), .val (.ref q1), .val (.ref q2), .val (.ref q3), .unset, .unset, .unset, .unset] [.ref g51])
            refine Goes.runS X [(.dup, 1), (.iconst 2, 1), (.aload 14, 2)] (S' := [.ref q2, .int (2 : Int32), .ref g51, .ref g51]) (pc' := 224) rfl ?_
            refine Goes.aastore X 8 2 2 hOg51 (wd hw 18 rfl) rfl rfl (by decide) (by decide) (by decide) (Nat.le_of_ble_eq_true rfl) ?_
            show Goes _ _ _ _ _ _ _ _ _ _ _ _ _ _ _ _ _ _ _ _ [(q3, ro ts3 (o_String (.ref b3) (.int 0))), (b3, ro tb3 (ar D3 .byte (mm3.map own_by))), (q2, ro ts2 (o_String (.ref b2) (.int 0))), (b2, ro tb2 (ar D2 .byte (mm2.map own_by))), (q1, ro ts1 (o_String (.ref b1) (.int 0))), (b1, ro tb1 (ar D1 .byte (mm1.map own_by))), (q0, ro ts0 (o_String (.ref b0) (.int 0))), (b0, ro tb0 (ar D0 .byte (mm0.map own_by))), (g51, ar "[Ljava/lang/String;" (.object "java/lang/String") [.ref q0, .ref q1, .ref q2, .null])] 9 24 (mkF m 225 #[.val (.int p0), .val (.int p1), .val (.int p2), .val (.int (2 : Int32)), .val (.int ch0), .val (.int ch1), .val (.int ch2), .val (.int ch3), .val (.int z0), .val (.int z1), .val (.int z2), .val (.int z3), .val (.ref q0), .val (.ref q1), .val (.ref q2), .val (.ref q3), .unset, .unset, .unset, .unset] [.ref g51])
            refine Goes.runS X [(.dup, 1), (.iconst 3, 1), (.aload 15, 2)] (S' := [.ref q3, .int (3 : Int32), .ref g51, .ref g51]) (pc' := 229) rfl ?_
            refine Goes.aastore X 8 0 3 hOg51 (wd hw 18 rfl) rfl rfl (by decide) (by decide) (by decide) (Nat.le_of_ble_eq_true rfl) ?_
            show Goes _ _ _ _ _ _ _ _ _ _ _ _ _ _ _ _ _ _ _ _ [(q3, ro ts3 (o_String (.ref b3) (.int 0))), (b3, ro tb3 (ar D3 .byte (mm3.map own_by))), (q2, ro ts2 (o_String (.ref b2) (.int 0))), (b2, ro tb2 (ar D2 .byte (mm2.map own_by))), (q1, ro ts1 (o_String (.ref b1) (.int 0))), (b1, ro tb1 (ar D1 .byte (mm1.map own_by))), (q0, ro ts0 (o_String (.ref b0) (.int 0))), (b0, ro tb0 (ar D0 .byte (mm0.map own_by))), (g51, ar "[Ljava/lang/String;" (.object "java/lang/String") [.ref q0, .ref q1, .ref q2, .ref q3])] 9 24 (mkF m 230 #[.val (.int p0), .val (.int p1), .val (.int p2), .val (.int (2 : Int32)), .val (.int ch0), .val (.int ch1), .val (.int ch2), .val (.int ch3), .val (.int z0), .val (.int z1), .val (.int z2), .val (.int z3), .val (.ref q0), .val (.ref q1), .val (.ref q2), .val (.ref q3), .unset, .unset, .unset, .unset] [.ref g51])
            refine Goes.run X [(.astore 16, 2), (.aload 16, 2)] (L' := #[.val (.int p0), .val (.int p1), .val (.int p2), .val (.int (2 : Int32)), .val (.int ch0), .val (.int ch1), .val (.int ch2), .val (.int ch3), .val (.int z0), .val (.int z1), .val (.int z2), .val (.int z3), .val (.ref q0), .val (.ref q1), .val (.ref q2), .val (.ref q3), .val (.ref g51), .unset, .unset, .unset]) (S' := [.ref g51]) (pc' := 234) rfl ?_
            refine Goes.callSW X 0 [8, 6, 7, 4, 5, 2, 3, 0, 1] [] (D_json2 l Z a0 h0 hw cs hCS hcs g51 q0 b0 ts0 tb0 D0 mm0 hf0.1 q1 b1 ts1 tb1 D1 mm1 hf1.1 q2 b2 ts2 tb2 D2 mm2 hf2.1 q3 b3 ts3 tb3 D3 mm3 hf3.1) (wd hw 32 rfl) (wd hw 33 rfl) (wd hw 34 rfl) (wd hw 35 rfl) pd_y_4 rfl (st := []) rfl rfl (G := []) rfl rfl ?_
            rintro _ _ vm0 k0 ⟨r52, t53, rfl, rfl⟩ X
            refine ⟨Or.inl rfl, ?_⟩
            refine Goes.sub [0, 1] (G := [(r52, o_String (.ref t53) (.int 0)), (t53, oBs ((own_js2 mm0 mm1 mm2 mm3).map own_by))]) rfl ?_
            show Goes _ _ _ _ _ _ _ _ _ _ _ _ _ _ _ _ _ _ _ _ [(r52, o_String (.ref t53) (.int 0)), (t53, oBs ((own_js2 mm0 mm1 mm2 mm3).map own_by))] 23 126 (mkF m 237 #[.val (.int p0), .val (.int p1), .val (.int p2), .val (.int (2 : Int32)), .val (.int ch0), .val (.int ch1), .val (.int ch2), .val (.int ch3), .val (.int z0), .val (.int z1), .val (.int z2), .val (.int z3), .val (.ref q0), .val (.ref q1), .val (.ref q2), .val (.ref q3), .val (.ref g51), .unset, .unset, .unset] [.ref r52])
            refine Goes.run X [(.astore 17, 2), (.bipush 17, 2)] (L' := #[.val (.int p0), .val (.int p1), .val (.int p2), .val (.int (2 : Int32)), .val (.int ch0), .val (.int ch1), .val (.int ch2), .val (.int ch3), .val (.int z0), .val (.int z1), .val (.int z2), .val (.int z3), .val (.ref q0), .val (.ref q1), .val (.ref q2), .val (.ref q3), .val (.ref g51), .val (.ref r52), .unset, .unset]) (S' := [.int (17 : Int32)]) (pc' := 241) rfl ?_
            refine Goes.newarr X (aty := .char) "[C" 17 17 (wd hw 163 rfl) (by decide +kernel) (by decide) (by decide) (fun u54 => ?_)
            show Goes _ _ _ _ _ _ _ _ _ _ _ _ _ _ _ _ _ _ _ _ [(r52, o_String (.ref t53) (.int 0)), (t53, oBs ((own_js2 mm0 mm1 mm2 mm3).map own_by)), (u54, ar "[C" .char (own_padC ([] : List Int32)))] 24 143 (mkF m 243 #[.val (.int p0), .val (.int p1), .val (.int p2), .val (.int (2 : Int32)), .val (.int ch0), .val (.int ch1), .val (.int ch2), .val (.int ch3), .val (.int z0), .val (.int z1), .val (.int z2), .val (.int z3), .val (.ref q0), .val (.ref q1), .val (.ref q2), .val (.ref q3), .val (.ref g51), .val (.ref r52), .unset, .unset] [.ref u54])
            refine Goes.run X [(.astore 18, 2), (.iconst 0, 1), (.istore 19, 2), (.aload 18, 2), (.iload 19, 2), (.bipush 123, 2)] (L' := #[.val (.int p0), .val (.int p1), .val (.int p2), .val (.int (2 : Int32)), .val (.int ch0), .val (.int ch1), .val (.int ch2), .val (.int ch3), .val (.int z0), .val (.int z1), .val (.int z2), .val (.int z3), .val (.ref q0), .val (.ref q1), .val (.ref q2), .val (.ref q3), .val (.ref g51), .val (.ref r52), .val (.ref u54), .val (.int (0 : Int32))]) (S' := [.int (123 : Int32), .int (0 : Int32), .ref u54]) (pc' := 254) rfl ?_
            refine Goes.callS X 0 [2] [0, 1] (D_put l Z a0 h0 hw u54 ([] : List Int32) (by (try simp only [List.length_append, List.length_cons, List.length_nil]) <;> omega) (0 : Int32) rfl (123 : Int32) (by decide)) (wd hw 164 rfl) (wd hw 165 rfl) (wd hw 166 rfl) (wd hw 167 rfl) pd_y_29 rfl (st := []) rfl rfl (G := [(r52, o_String (.ref t53) (.int 0)), (t53, oBs ((own_js2 mm0 mm1 mm2 mm3).map own_by))]) rfl rfl ?_
            rintro _ _ ⟨rfl, rfl⟩
            refine ⟨Or.inl rfl, ?_⟩
            refine Goes.run X [(.istore 19, 2), (.iload_n 3, 1), (.iconst 1, 1)] (L' := #[.val (.int p0), .val (.int p1), .val (.int p2), .val (.int (2 : Int32)), .val (.int ch0), .val (.int ch1), .val (.int ch2), .val (.int ch3), .val (.int z0), .val (.int z1), .val (.int z2), .val (.int z3), .val (.ref q0), .val (.ref q1), .val (.ref q2), .val (.ref q3), .val (.ref g51), .val (.ref r52), .val (.ref u54), .val (.int (Int32.ofNat (([] : List Int32) ++ [(123 : Int32)]).length))]) (S' := [.int (1 : Int32), .int (2 : Int32)]) (pc' := 261) rfl ?_
            refine Goes.if2 X (pc' := 281) (o := 20) (cd := .lt) (fun q => absurd q (by decide)) (fun _ => ?_)
            refine Goes.runS X [(.aload 18, 2), (.iload 19, 2), (.iload 4, 2), (.iload 8, 2), (.iload 5, 2), (.iload 9, 2)] (S' := [.int z1, .int ch1, .int z0, .int ch0, .int (Int32.ofNat (([] : List Int32) ++ [(123 : Int32)]).length), .ref u54]) (pc' := 276) rfl ?_
            have hg0 := hf0.1
            have hg1 := hf1.1
            refine Goes.callS X 0 [0] [1, 2] (D_pair l Z a0 h0 hw u54 (([] : List Int32) ++ [(123 : Int32)]) (by (try simp only [own_pr_len, List.length_append, List.length_cons, List.length_nil]) <;> omega) ch0 z0 ch1 z1 mm0 mm1 fc0 fc1 hq0 hq1) (wd hw 196 rfl) (wd hw 197 rfl) (wd hw 166 rfl) (wd hw 198 rfl) pd_y_36 rfl (st := []) rfl rfl (G := [(r52, o_String (.ref t53) (.int 0)), (t53, oBs ((own_js2 mm0 mm1 mm2 mm3).map own_by))]) rfl rfl ?_
            rintro _ _ ⟨rfl, rfl⟩
            refine ⟨Or.inl rfl, ?_⟩
            refine Goes.run X [(.istore 19, 2), (.iload_n 3, 1), (.iconst 2, 1)] (L' := #[.val (.int p0), .val (.int p1), .val (.int p2), .val (.int (2 : Int32)), .val (.int ch0), .val (.int ch1), .val (.int ch2), .val (.int ch3), .val (.int z0), .val (.int z1), .val (.int z2), .val (.int z3), .val (.ref q0), .val (.ref q1), .val (.ref q2), .val (.ref q3), .val (.ref g51), .val (.ref r52), .val (.ref u54), .val (.int (Int32.ofNat ((([] : List Int32) ++ [(123 : Int32)]) ++ own_pr mm0 mm1).length))]) (S' := [.int (2 : Int32), .int (2 : Int32)]) (pc' := 283) rfl ?_
            refine Goes.if2 X (pc' := 314) (o := 31) (cd := .lt) (fun q => absurd q (by decide)) (fun _ => ?_)
            refine Goes.runS X [(.aload 18, 2), (.iload 19, 2), (.bipush 44, 2)] (S' := [.int (44 : Int32), .int (Int32.ofNat ((([] : List Int32) ++ [(123 : Int32)]) ++ own_pr mm0 mm1).length), .ref u54]) (pc' := 292) rfl ?_
            have hg2 := hf2.1
            have hg3 := hf3.1
            refine Goes.callS X 0 [0] [1, 2] (D_put l Z a0 h0 hw u54 ((([] : List Int32) ++ [(123 : Int32)]) ++ own_pr mm0 mm1) (by (try simp only [own_pr_len, List.length_append, List.length_cons, List.length_nil]) <;> omega) _ rfl (44 : Int32) (by decide)) (wd hw 164 rfl) (wd hw 165 rfl) (wd hw 166 rfl) (wd hw 167 rfl) pd_y_29 rfl (st := []) rfl rfl (G := [(r52, o_String (.ref t53) (.int 0)), (t53, oBs ((own_js2 mm0 mm1 mm2 mm3).map own_by))]) rfl rfl ?_
            rintro _ _ ⟨rfl, rfl⟩
            refine ⟨Or.inl rfl, ?_⟩
            refine Goes.run X [(.istore 19, 2), (.aload 18, 2), (.iload 19, 2), (.iload 6, 2), (.iload 10, 2), (.iload 7, 2), (.iload 11, 2)] (L' := #[.val (.int p0), .val (.int p1), .val (.int p2), .val (.int (2 : Int32)), .val (.int ch0), .val (.int ch1), .val (.int ch2), .val (.int ch3), .val (.int z0), .val (.int z1), .val (.int z2), .val (.int z3), .val (.ref q0), .val (.ref q1), .val (.ref q2), .val (.ref q3), .val (.ref g51), .val (.ref r52), .val (.ref u54), .val (.int (Int32.ofNat (((([] : List Int32) ++ [(123 : Int32)]) ++ own_pr mm0 mm1) ++ [(44 : Int32)]).length))]) (S' := [.int z3, .int ch3, .int z2, .int ch2, .int (Int32.ofNat (((([] : List Int32) ++ [(123 : Int32)]) ++ own_pr mm0 mm1) ++ [(44 : Int32)]).length), .ref u54]) (pc' := 309) rfl ?_
            refine Goes.callS X 0 [0] [1, 2] (D_pair l Z a0 h0 hw u54 (((([] : List Int32) ++ [(123 : Int32)]) ++ own_pr mm0 mm1) ++ [(44 : Int32)]) (by (try simp only [own_pr_len, List.length_append, List.length_cons, List.length_nil]) <;> omega) ch2 z2 ch3 z3 mm2 mm3 fc2 fc3 hq2 hq3) (wd hw 196 rfl) (wd hw 197 rfl) (wd hw 166 rfl) (wd hw 198 rfl) pd_y_36 rfl (st := []) rfl rfl (G := [(r52, o_String (.ref t53) (.int 0)), (t53, oBs ((own_js2 mm0 mm1 mm2 mm3).map own_by))]) rfl rfl ?_
            rintro _ _ ⟨rfl, rfl⟩
            refine ⟨Or.inl rfl, ?_⟩
            refine Goes.run X [(.istore 19, 2), (.aload 18, 2), (.iload 19, 2), (.bipush 125, 2)] (L' := #[.val (.int p0), .val (.int p1), .val (.int p2), .val (.int (2 : Int32)), .val (.int ch0), .val (.int ch1), .val (.int ch2), .val (.int ch3), .val (.int z0), .val (.int z1), .val (.int z2), .val (.int z3), .val (.ref q0), .val (.ref q1), .val (.ref q2), .val (.ref q3), .val (.ref g51), .val (.ref r52), .val (.ref u54), .val (.int (Int32.ofNat ((((([] : List Int32) ++ [(123 : Int32)]) ++ own_pr mm0 mm1) ++ [(44 : Int32)]) ++ own_pr mm2 mm3).length))]) (S' := [.int (125 : Int32), .int (Int32.ofNat ((((([] : List Int32) ++ [(123 : Int32)]) ++ own_pr mm0 mm1) ++ [(44 : Int32)]) ++ own_pr mm2 mm3).length), .ref u54]) (pc' := 320) rfl ?_
            refine Goes.callS X 0 [0] [1, 2] (D_put l Z a0 h0 hw u54 ((((([] : List Int32) ++ [(123 : Int32)]) ++ own_pr mm0 mm1) ++ [(44 : Int32)]) ++ own_pr mm2 mm3) (by (try simp only [own_pr_len, List.length_append, List.length_cons, List.length_nil]) <;> omega) _ rfl (125 : Int32) (by decide)) (wd hw 164 rfl) (wd hw 165 rfl) (wd hw 166 rfl) (wd hw 167 rfl) pd_y_29 rfl (st := []) rfl rfl (G := [(r52, o_String (.ref t53) (.int 0)), (t53, oBs ((own_js2 mm0 mm1 mm2 mm3).map own_by))]) rfl rfl ?_
            rintro _ _ ⟨rfl, rfl⟩
            refine ⟨Or.inl rfl, ?_⟩
            have eL : (((((([] : List Int32) ++ [(123 : Int32)]) ++ own_pr mm0 mm1) ++ [(44 : Int32)]) ++ own_pr mm2 mm3) ++ [(125 : Int32)]) = (own_js2 mm0 mm1 mm2 mm3) := rfl
            show Goes _ _ _ _ _ _ _ _ _ _ _ _ _ _ _ _ _ _ _ _ [(u54, ar "[C" .char (own_padC (((((([] : List Int32) ++ [(123 : Int32)]) ++ own_pr mm0 mm1) ++ [(44 : Int32)]) ++ own_pr mm2 mm3) ++ [(125 : Int32)]))), (r52, o_String (.ref t53) (.int 0)), (t53, oBs ((own_js2 mm0 mm1 mm2 mm3).map own_by))] 24 143 (mkF m 323 #[.val (.int p0), .val (.int p1), .val (.int p2), .val (.int (2 : Int32)), .val (.int ch0), .val (.int ch1), .val (.int ch2), .val (.int ch3), .val (.int z0), .val (.int z1), .val (.int z2), .val (.int z3), .val (.ref q0), .val (.ref q1), .val (.ref q2), .val (.ref q3), .val (.ref g51), .val (.ref r52), .val (.ref u54), .val (.int (Int32.ofNat ((((([] : List Int32) ++ [(123 : Int32)]) ++ own_pr mm0 mm1) ++ [(44 : Int32)]) ++ own_pr mm2 mm3).length))] [.int (Int32.ofNat (((((([] : List Int32) ++ [(123 : Int32)]) ++ own_pr mm0 mm1) ++ [(44 : Int32)]) ++ own_pr mm2 mm3) ++ [(125 : Int32)]).length)])
            rw [eL]
            show Goes _ _ _ _ _ _ _ _ _ _ _ _ _ _ _ _ _ _ _ _ [(u54, ar "[C" .char (own_padC (own_js2 mm0 mm1 mm2 mm3))), (r52, o_String (.ref t53) (.int 0)), (t53, oBs ((own_js2 mm0 mm1 mm2 mm3).map own_by))] 24 143 (mkF m 323 #[.val (.int p0), .val (.int p1), .val (.int p2), .val (.int (2 : Int32)), .val (.int ch0), .val (.int ch1), .val (.int ch2), .val (.int ch3), .val (.int z0), .val (.int z1), .val (.int z2), .val (.int z3), .val (.ref q0), .val (.ref q1), .val (.ref q2), .val (.ref q3), .val (.ref g51), .val (.ref r52), .val (.ref u54), .val (.int (Int32.ofNat ((((([] : List Int32) ++ [(123 : Int32)]) ++ own_pr mm0 mm1) ++ [(44 : Int32)]) ++ own_pr mm2 mm3).length))] [.int (Int32.ofNat (own_js2 mm0 mm1 mm2 mm3).length)])
            refine Goes.run X [(.istore 19, 2), (.aload 17, 2)] (L' := #[.val (.int p0), .val (.int p1), .val (.int p2), .val (.int (2 : Int32)), .val (.int ch0), .val (.int ch1), .val (.int ch2), .val (.int ch3), .val (.int z0), .val (.int z1), .val (.int z2), .val (.int z3), .val (.ref q0), .val (.ref q1), .val (.ref q2), .val (.ref q3), .val (.ref g51), .val (.ref r52), .val (.ref u54), .val (.int (Int32.ofNat (own_js2 mm0 mm1 mm2 mm3).length))]) (S' := [.ref r52]) (pc' := 327) rfl ?_
            have hE : (own_js2 mm0 mm1 mm2 mm3).length ≤ 17 := own_js2_len hf0.1 hf1.1 hf2.1 hf3.1
            have hA : ∀ x ∈ (own_js2 mm0 mm1 mm2 mm3), (oI2b x &&& 255) = x := own_js2_all hf0.2 hf1.2 hf2.2 hf3.2
            refine Goes.sub [1, 2, 0] (G := [(r52, o_String (.ref t53) (.int 0)), (t53, oBs ((own_js2 mm0 mm1 mm2 mm3).map own_by)), (u54, ar "[C" .char (own_padC (own_js2 mm0 mm1 mm2 mm3)))]) rfl ?_
            show Goes _ _ _ _ _ _ _ _ _ _ _ _ _ _ _ _ _ _ _ _ [(r52, o_String (.ref t53) (.int 0)), (t53, oBs ((own_js2 mm0 mm1 mm2 mm3).map own_by)), (u54, ar "[C" .char (own_padC (own_js2 mm0 mm1 mm2 mm3)))] 24 143 (mkF m 327 #[.val (.int p0), .val (.int p1), .val (.int p2), .val (.int (2 : Int32)), .val (.int ch0), .val (.int ch1), .val (.int ch2), .val (.int ch3), .val (.int z0), .val (.int z1), .val (.int z2), .val (.int z3), .val (.ref q0), .val (.ref q1), .val (.ref q2), .val (.ref q3), .val (.ref g51), .val (.ref r52), .val (.ref u54), .val (.int (Int32.ofNat (own_js2 mm0 mm1 mm2 mm3).length))] [.ref r52])
            refine Goes.callV X 0 0 [0, 1] [2] rfl (D_slen l Z a0 h0 hw cs hCS hcs r52 t53 0 0 "[B" (own_js2 mm0 mm1 mm2 mm3) hE) (wd hw 168 rfl) (wd hw 51 rfl) (wd hw 53 rfl) (wd hw 52 rfl) (own_nf X (wd hw 53 rfl)) (wd hw 3 rfl) (wd hw 54 rfl) pd_y_7 rfl (st := []) rfl rfl (G := [(u54, ar "[C" .char (own_padC (own_js2 mm0 mm1 mm2 mm3)))]) rfl rfl ?_
            rintro _ _ ⟨rfl, rfl⟩
            refine ⟨Or.inr (Or.inr fun _ q => Or.inr (Or.inr q)), ?_⟩
            refine Goes.runS X [(.iload 19, 2)] (S' := [.int (Int32.ofNat (own_js2 mm0 mm1 mm2 mm3).length), .int (Int32.ofNat (own_js2 mm0 mm1 mm2 mm3).length)]) (pc' := 332) rfl ?_
            refine Goes.if2 X (pc' := 571) (o := 239) (cd := .ne) (fun q => absurd (q.symm.trans (by simp [if_icmp.holds] : if_icmp.holds .ne (Int32.ofNat (own_js2 mm0 mm1 mm2 mm3).length) (Int32.ofNat (own_js2 mm0 mm1 mm2 mm3).length) = false)) (by decide)) (fun _ => ?_)
            refine Goes.runS X [(.aload 17, 2), (.aload 18, 2), (.iload 19, 2), (.iconst 0, 1)] (S' := [.int (0 : Int32), .int (Int32.ofNat (own_js2 mm0 mm1 mm2 mm3).length), .ref u54, .ref r52]) (pc' := 342) rfl ?_
            refine Goes.callS X 0 [0, 1, 2] [] (D_at l Z a0 h0 hw cs hCS hcs sio hSIO hsio r52 t53 u54 (own_js2 mm0 mm1 mm2 mm3) hE hA (0 : Int32) 0 (by decide) rfl) (wd hw 169 rfl) (wd hw 170 rfl) (wd hw 166 rfl) (wd hw 171 rfl) pd_y_30 rfl (st := []) rfl rfl (G := []) rfl rfl ?_
            rintro _ _ ⟨rfl, rfl⟩
            refine ⟨Or.inr (Or.inr fun _ q => Or.inr (Or.inr q)), ?_⟩
            refine Goes.if1 X (pc' := 571) (o := 226) (cd := .eq) (fun q => absurd q (by decide)) (fun _ => ?_)
            refine Goes.runS X [(.aload 17, 2), (.aload 18, 2), (.iload 19, 2), (.iconst 1, 1)] (S' := [.int (1 : Int32), .int (Int32.ofNat (own_js2 mm0 mm1 mm2 mm3).length), .ref u54, .ref r52]) (pc' := 355) rfl ?_
            refine Goes.callS X 0 [0, 1, 2] [] (D_at l Z a0 h0 hw cs hCS hcs sio hSIO hsio r52 t53 u54 (own_js2 mm0 mm1 mm2 mm3) hE hA (1 : Int32) 1 (by decide) rfl) (wd hw 169 rfl) (wd hw 170 rfl) (wd hw 166 rfl) (wd hw 171 rfl) pd_y_30 rfl (st := []) rfl rfl (G := []) rfl rfl ?_
            rintro _ _ ⟨rfl, rfl⟩
            refine ⟨Or.inr (Or.inr fun _ q => Or.inr (Or.inr q)), ?_⟩
            refine Goes.if1 X (pc' := 571) (o := 213) (cd := .eq) (fun q => absurd q (by decide)) (fun _ => ?_)
            refine Goes.runS X [(.aload 17, 2), (.aload 18, 2), (.iload 19, 2), (.iconst 2, 1)] (S' := [.int (2 : Int32), .int (Int32.ofNat (own_js2 mm0 mm1 mm2 mm3).length), .ref u54, .ref r52]) (pc' := 368) rfl ?_
            refine Goes.callS X 0 [0, 1, 2] [] (D_at l Z a0 h0 hw cs hCS hcs sio hSIO hsio r52 t53 u54 (own_js2 mm0 mm1 mm2 mm3) hE hA (2 : Int32) 2 (by decide) rfl) (wd hw 169 rfl) (wd hw 170 rfl) (wd hw 166 rfl) (wd hw 171 rfl) pd_y_30 rfl (st := []) rfl rfl (G := []) rfl rfl ?_
            rintro _ _ ⟨rfl, rfl⟩
            refine ⟨Or.inr (Or.inr fun _ q => Or.inr (Or.inr q)), ?_⟩
            refine Goes.if1 X (pc' := 571) (o := 200) (cd := .eq) (fun q => absurd q (by decide)) (fun _ => ?_)
            refine Goes.runS X [(.aload 17, 2), (.aload 18, 2), (.iload 19, 2), (.iconst 3, 1)] (S' := [.int (3 : Int32), .int (Int32.ofNat (own_js2 mm0 mm1 mm2 mm3).length), .ref u54, .ref r52]) (pc' := 381) rfl ?_
            refine Goes.callS X 0 [0, 1, 2] [] (D_at l Z a0 h0 hw cs hCS hcs sio hSIO hsio r52 t53 u54 (own_js2 mm0 mm1 mm2 mm3) hE hA (3 : Int32) 3 (by decide) rfl) (wd hw 169 rfl) (wd hw 170 rfl) (wd hw 166 rfl) (wd hw 171 rfl) pd_y_30 rfl (st := []) rfl rfl (G := []) rfl rfl ?_
            rintro _ _ ⟨rfl, rfl⟩
            refine ⟨Or.inr (Or.inr fun _ q => Or.inr (Or.inr q)), ?_⟩
            refine Goes.if1 X (pc' := 571) (o := 187) (cd := .eq) (fun q => absurd q (by decide)) (fun _ => ?_)
            refine Goes.runS X [(.aload 17, 2), (.aload 18, 2), (.iload 19, 2), (.iconst 4, 1)] (S' := [.int (4 : Int32), .int (Int32.ofNat (own_js2 mm0 mm1 mm2 mm3).length), .ref u54, .ref r52]) (pc' := 394) rfl ?_
            refine Goes.callS X 0 [0, 1, 2] [] (D_at l Z a0 h0 hw cs hCS hcs sio hSIO hsio r52 t53 u54 (own_js2 mm0 mm1 mm2 mm3) hE hA (4 : Int32) 4 (by decide) rfl) (wd hw 169 rfl) (wd hw 170 rfl) (wd hw 166 rfl) (wd hw 171 rfl) pd_y_30 rfl (st := []) rfl rfl (G := []) rfl rfl ?_
            rintro _ _ ⟨rfl, rfl⟩
            refine ⟨Or.inr (Or.inr fun _ q => Or.inr (Or.inr q)), ?_⟩
            refine Goes.if1 X (pc' := 571) (o := 174) (cd := .eq) (fun q => absurd q (by decide)) (fun _ => ?_)
            refine Goes.runS X [(.aload 17, 2), (.aload 18, 2), (.iload 19, 2), (.iconst 5, 1)] (S' := [.int (5 : Int32), .int (Int32.ofNat (own_js2 mm0 mm1 mm2 mm3).length), .ref u54, .ref r52]) (pc' := 407) rfl ?_
            refine Goes.callS X 0 [0, 1, 2] [] (D_at l Z a0 h0 hw cs hCS hcs sio hSIO hsio r52 t53 u54 (own_js2 mm0 mm1 mm2 mm3) hE hA (5 : Int32) 5 (by decide) rfl) (wd hw 169 rfl) (wd hw 170 rfl) (wd hw 166 rfl) (wd hw 171 rfl) pd_y_30 rfl (st := []) rfl rfl (G := []) rfl rfl ?_
            rintro _ _ ⟨rfl, rfl⟩
            refine ⟨Or.inr (Or.inr fun _ q => Or.inr (Or.inr q)), ?_⟩
            refine Goes.if1 X (pc' := 571) (o := 161) (cd := .eq) (fun q => absurd q (by decide)) (fun _ => ?_)
            refine Goes.runS X [(.aload 17, 2), (.aload 18, 2), (.iload 19, 2), (.bipush 6, 2)] (S' := [.int (6 : Int32), .int (Int32.ofNat (own_js2 mm0 mm1 mm2 mm3).length), .ref u54, .ref r52]) (pc' := 421) rfl ?_
            refine Goes.callS X 0 [0, 1, 2] [] (D_at l Z a0 h0 hw cs hCS hcs sio hSIO hsio r52 t53 u54 (own_js2 mm0 mm1 mm2 mm3) hE hA (6 : Int32) 6 (by decide) rfl) (wd hw 169 rfl) (wd hw 170 rfl) (wd hw 166 rfl) (wd hw 171 rfl) pd_y_30 rfl (st := []) rfl rfl (G := []) rfl rfl ?_
            rintro _ _ ⟨rfl, rfl⟩
            refine ⟨Or.inr (Or.inr fun _ q => Or.inr (Or.inr q)), ?_⟩
            refine Goes.if1 X (pc' := 571) (o := 147) (cd := .eq) (fun q => absurd q (by decide)) (fun _ => ?_)
            refine Goes.runS X [(.aload 17, 2), (.aload 18, 2), (.iload 19, 2), (.bipush 7, 2)] (S' := [.int (7 : Int32), .int (Int32.ofNat (own_js2 mm0 mm1 mm2 mm3).length), .ref u54, .ref r52]) (pc' := 435) rfl ?_
            refine Goes.callS X 0 [0, 1, 2] [] (D_at l Z a0 h0 hw cs hCS hcs sio hSIO hsio r52 t53 u54 (own_js2 mm0 mm1 mm2 mm3) hE hA (7 : Int32) 7 (by decide) rfl) (wd hw 169 rfl) (wd hw 170 rfl) (wd hw 166 rfl) (wd hw 171 rfl) pd_y_30 rfl (st := []) rfl rfl (G := []) rfl rfl ?_
            rintro _ _ ⟨rfl, rfl⟩
            refine ⟨Or.inr (Or.inr fun _ q => Or.inr (Or.inr q)), ?_⟩
            refine Goes.if1 X (pc' := 571) (o := 133) (cd := .eq) (fun q => absurd q (by decide)) (fun _ => ?_)
            refine Goes.runS X [(.aload 17, 2), (.aload 18, 2), (.iload 19, 2), (.bipush 8, 2)] (S' := [.int (8 : Int32), .int (Int32.ofNat (own_js2 mm0 mm1 mm2 mm3).length), .ref u54, .ref r52]) (pc' := 449) rfl ?_
            refine Goes.callS X 0 [0, 1, 2] [] (D_at l Z a0 h0 hw cs hCS hcs sio hSIO hsio r52 t53 u54 (own_js2 mm0 mm1 mm2 mm3) hE hA (8 : Int32) 8 (by decide) rfl) (wd hw 169 rfl) (wd hw 170 rfl) (wd hw 166 rfl) (wd hw 171 rfl) pd_y_30 rfl (st := []) rfl rfl (G := []) rfl rfl ?_
            rintro _ _ ⟨rfl, rfl⟩
            refine ⟨Or.inr (Or.inr fun _ q => Or.inr (Or.inr q)), ?_⟩
            refine Goes.if1 X (pc' := 571) (o := 119) (cd := .eq) (fun q => absurd q (by decide)) (fun _ => ?_)
            refine Goes.runS X [(.aload 17, 2), (.aload 18, 2), (.iload 19, 2), (.bipush 9, 2)] (S' := [.int (9 : Int32), .int (Int32.ofNat (own_js2 mm0 mm1 mm2 mm3).length), .ref u54, .ref r52]) (pc' := 463) rfl ?_
            refine Goes.callS X 0 [0, 1, 2] [] (D_at l Z a0 h0 hw cs hCS hcs sio hSIO hsio r52 t53 u54 (own_js2 mm0 mm1 mm2 mm3) hE hA (9 : Int32) 9 (by decide) rfl) (wd hw 169 rfl) (wd hw 170 rfl) (wd hw 166 rfl) (wd hw 171 rfl) pd_y_30 rfl (st := []) rfl rfl (G := []) rfl rfl ?_
            rintro _ _ ⟨rfl, rfl⟩
            refine ⟨Or.inr (Or.inr fun _ q => Or.inr (Or.inr q)), ?_⟩
            refine Goes.if1 X (pc' := 571) (o := 105) (cd := .eq) (fun q => absurd q (by decide)) (fun _ => ?_)
            refine Goes.runS X [(.aload 17, 2), (.aload 18, 2), (.iload 19, 2), (.bipush 10, 2)] (S' := [.int (10 : Int32), .int (Int32.ofNat (own_js2 mm0 mm1 mm2 mm3).length), .ref u54, .ref r52]) (pc' := 477) rfl ?_
            refine Goes.callS X 0 [0, 1, 2] [] (D_at l Z a0 h0 hw cs hCS hcs sio hSIO hsio r52 t53 u54 (own_js2 mm0 mm1 mm2 mm3) hE hA (10 : Int32) 10 (by decide) rfl) (wd hw 169 rfl) (wd hw 170 rfl) (wd hw 166 rfl) (wd hw 171 rfl) pd_y_30 rfl (st := []) rfl rfl (G := []) rfl rfl ?_
            rintro _ _ ⟨rfl, rfl⟩
            refine ⟨Or.inr (Or.inr fun _ q => Or.inr (Or.inr q)), ?_⟩
            refine Goes.if1 X (pc' := 571) (o := 91) (cd := .eq) (fun q => absurd q (by decide)) (fun _ => ?_)
            refine Goes.runS X [(.aload 17, 2), (.aload 18, 2), (.iload 19, 2), (.bipush 11, 2)] (S' := [.int (11 : Int32), .int (Int32.ofNat (own_js2 mm0 mm1 mm2 mm3).length), .ref u54, .ref r52]) (pc' := 491) rfl ?_
            refine Goes.callS X 0 [0, 1, 2] [] (D_at l Z a0 h0 hw cs hCS hcs sio hSIO hsio r52 t53 u54 (own_js2 mm0 mm1 mm2 mm3) hE hA (11 : Int32) 11 (by decide) rfl) (wd hw 169 rfl) (wd hw 170 rfl) (wd hw 166 rfl) (wd hw 171 rfl) pd_y_30 rfl (st := []) rfl rfl (G := []) rfl rfl ?_
            rintro _ _ ⟨rfl, rfl⟩
            refine ⟨Or.inr (Or.inr fun _ q => Or.inr (Or.inr q)), ?_⟩
            refine Goes.if1 X (pc' := 571) (o := 77) (cd := .eq) (fun q => absurd q (by decide)) (fun _ => ?_)
            refine Goes.runS X [(.aload 17, 2), (.aload 18, 2), (.iload 19, 2), (.bipush 12, 2)] (S' := [.int (12 : Int32), .int (Int32.ofNat (own_js2 mm0 mm1 mm2 mm3).length), .ref u54, .ref r52]) (pc' := 505) rfl ?_
            refine Goes.callS X 0 [0, 1, 2] [] (D_at l Z a0 h0 hw cs hCS hcs sio hSIO hsio r52 t53 u54 (own_js2 mm0 mm1 mm2 mm3) hE hA (12 : Int32) 12 (by decide) rfl) (wd hw 169 rfl) (wd hw 170 rfl) (wd hw 166 rfl) (wd hw 171 rfl) pd_y_30 rfl (st := []) rfl rfl (G := []) rfl rfl ?_
            rintro _ _ ⟨rfl, rfl⟩
            refine ⟨Or.inr (Or.inr fun _ q => Or.inr (Or.inr q)), ?_⟩
            refine Goes.if1 X (pc' := 571) (o := 63) (cd := .eq) (fun q => absurd q (by decide)) (fun _ => ?_)
            refine Goes.runS X [(.aload 17, 2), (.aload 18, 2), (.iload 19, 2), (.bipush 13, 2)] (S' := [.int (13 : Int32), .int (Int32.ofNat (own_js2 mm0 mm1 mm2 mm3).length), .ref u54, .ref r52]) (pc' := 519) rfl ?_
            refine Goes.callS X 0 [0, 1, 2] [] (D_at l Z a0 h0 hw cs hCS hcs sio hSIO hsio r52 t53 u54 (own_js2 mm0 mm1 mm2 mm3) hE hA (13 : Int32) 13 (by decide) rfl) (wd hw 169 rfl) (wd hw 170 rfl) (wd hw 166 rfl) (wd hw 171 rfl) pd_y_30 rfl (st := []) rfl rfl (G := []) rfl rfl ?_
            rintro _ _ ⟨rfl, rfl⟩
            refine ⟨Or.inr (Or.inr fun _ q => Or.inr (Or.inr q)), ?_⟩
            refine Goes.if1 X (pc' := 571) (o := 49) (cd := .eq) (fun q => absurd q (by decide)) (fun _ => ?_)
            refine Goes.runS X [(.aload 17, 2), (.aload 18, 2), (.iload 19, 2), (.bipush 14, 2)] (S' := [.int (14 : Int32), .int (Int32.ofNat (own_js2 mm0 mm1 mm2 mm3).length), .ref u54, .ref r52]) (pc' := 533) rfl ?_
            refine Goes.callS X 0 [0, 1, 2] [] (D_at l Z a0 h0 hw cs hCS hcs sio hSIO hsio r52 t53 u54 (own_js2 mm0 mm1 mm2 mm3) hE hA (14 : Int32) 14 (by decide) rfl) (wd hw 169 rfl) (wd hw 170 rfl) (wd hw 166 rfl) (wd hw 171 rfl) pd_y_30 rfl (st := []) rfl rfl (G := []) rfl rfl ?_
            rintro _ _ ⟨rfl, rfl⟩
            refine ⟨Or.inr (Or.inr fun _ q => Or.inr (Or.inr q)), ?_⟩
            refine Goes.if1 X (pc' := 571) (o := 35) (cd := .eq) (fun q => absurd q (by decide)) (fun _ => ?_)
            refine Goes.runS X [(.aload 17, 2), (.aload 18, 2), (.iload 19, 2), (.bipush 15, 2)] (S' := [.int (15 : Int32), .int (Int32.ofNat (own_js2 mm0 mm1 mm2 mm3).length), .ref u54, .ref r52]) (pc' := 547) rfl ?_
            refine Goes.callS X 0 [0, 1, 2] [] (D_at l Z a0 h0 hw cs hCS hcs sio hSIO hsio r52 t53 u54 (own_js2 mm0 mm1 mm2 mm3) hE hA (15 : Int32) 15 (by decide) rfl) (wd hw 169 rfl) (wd hw 170 rfl) (wd hw 166 rfl) (wd hw 171 rfl) pd_y_30 rfl (st := []) rfl rfl (G := []) rfl rfl ?_
            rintro _ _ ⟨rfl, rfl⟩
            refine ⟨Or.inr (Or.inr fun _ q => Or.inr (Or.inr q)), ?_⟩
            refine Goes.if1 X (pc' := 571) (o := 21) (cd := .eq) (fun q => absurd q (by decide)) (fun _ => ?_)
            refine Goes.runS X [(.aload 17, 2), (.aload 18, 2), (.iload 19, 2), (.bipush 16, 2)] (S' := [.int (16 : Int32), .int (Int32.ofNat (own_js2 mm0 mm1 mm2 mm3).length), .ref u54, .ref r52]) (pc' := 561) rfl ?_
            refine Goes.callS X 0 [0, 1, 2] [] (D_at l Z a0 h0 hw cs hCS hcs sio hSIO hsio r52 t53 u54 (own_js2 mm0 mm1 mm2 mm3) hE hA (16 : Int32) 16 (by decide) rfl) (wd hw 169 rfl) (wd hw 170 rfl) (wd hw 166 rfl) (wd hw 171 rfl) pd_y_30 rfl (st := []) rfl rfl (G := []) rfl rfl ?_
            rintro _ _ ⟨rfl, rfl⟩
            refine ⟨Or.inr (Or.inr fun _ q => Or.inr (Or.inr q)), ?_⟩
            refine Goes.if1 X (pc' := 571) (o := 7) (cd := .eq) (fun q => absurd q (by decide)) (fun _ => ?_)
            refine Goes.runS X [(.iconst 1, 1)] (S' := [.int (1 : Int32)]) (pc' := 568) rfl ?_
            refine Goes.goto X (o := 4) (pc' := 572) ?_
            refine Goes.retI X (by simp) rfl ?_
            exact rfl
        refine Goes.if1 X (pc' := 162) (o := 8) (cd := .eq) (fun q55 => ?_) (fun q55 => ?_)
        · refine Goes.runS X [(.iload 7, 2)] (S' := [.int ch3]) (pc' := 164) rfl ?_
          refine Goes.callS X 0 [] [0, 1, 2, 3, 4, 5] (D_vof l Z a0 h0 hw cs hCS hcs ch3 lc3) (wd hw 1 rfl) (wd hw 2 rfl) (wd hw 3 rfl) (wd hw 4 rfl) pd_y_0 rfl (st := []) rfl rfl (G := [(q2, ro ts2 (o_String (.ref b2) (.int 0))), (b2, ro tb2 (ar D2 .byte (mm2.map own_by))), (q1, ro ts1 (o_String (.ref b1) (.int 0))), (b1, ro tb1 (ar D1 .byte (mm1.map own_by))), (q0, ro ts0 (o_String (.ref b0) (.int 0))), (b0, ro tb0 (ar D0 .byte (mm0.map own_by)))]) rfl rfl ?_
          rintro _ _ ⟨r56, t57, rfl, rfl⟩
          refine ⟨Or.inl rfl, ?_⟩
          show Goes _ _ _ _ _ _ _ _ _ _ _ _ _ _ _ _ _ _ _ _ [(r56, o_String (.ref t57) (.int 0)), (t57, oBs ([ch3].map own_by)), (q2, ro ts2 (o_String (.ref b2) (.int 0))), (b2, ro tb2 (ar D2 .byte (mm2.map own_by))), (q1, ro ts1 (o_String (.ref b1) (.int 0))), (b1, ro tb1 (ar D1 .byte (mm1.map own_by))), (q0, ro ts0 (o_String (.ref b0) (.int 0))), (b0, ro tb0 (ar D0 .byte (mm0.map own_by)))] 8 20 (mkF m 167 #[.val (.int p0), .val (.int p1), .val (.int p2), .val (.int nn), .val (.int ch0), .val (.int ch1), .val (.int ch2), .val (.int ch3), .val (.int z0), .val (.int z1), .val (.int z2), .val (.int z3), .val (.ref q0), .val (.ref q1), .val (.ref q2), .unset, .unset, .unset, .unset, .unset] [.ref r56])
          exact J3 vm0 k0 r56 t57 0 0 "[B" [ch3] X (Or.inl ⟨by simpa [ifCond.holds] using q55, rfl⟩)
        · refine Goes.ldcR X 1 (([] : List Int32).map own_by) 0 (wd hw 27 rfl) (own_wS hw) (by decide) (own_Lv hw) (own_Lc hw) own_u8 (by decide) (by decide) (by decide) (fun a58 b59 vm0 k0 X => ?_)
          show Goes _ _ _ _ _ _ _ _ _ _ _ _ _ _ _ _ _ _ _ _ [(q2, ro ts2 (o_String (.ref b2) (.int 0))), (b2, ro tb2 (ar D2 .byte (mm2.map own_by))), (q1, ro ts1 (o_String (.ref b1) (.int 0))), (b1, ro tb1 (ar D1 .byte (mm1.map own_by))), (q0, ro ts0 (o_String (.ref b0) (.int 0))), (b0, ro tb0 (ar D0 .byte (mm0.map own_by))), (a58, ro 2 (o_String (.ref b59) (.int 0))), (b59, ro 2 (ar "" .byte (([] : List Int32).map own_by)))] 8 20 (mkF m 159 #[.val (.int p0), .val (.int p1), .val (.int p2), .val (.int nn), .val (.int ch0), .val (.int ch1), .val (.int ch2), .val (.int ch3), .val (.int z0), .val (.int z1), .val (.int z2), .val (.int z3), .val (.ref q0), .val (.ref q1), .val (.ref q2), .unset, .unset, .unset, .unset, .unset] [.ref a58])
          refine Goes.goto X (o := 8) (pc' := 167) ?_
          refine Goes.sub [6, 7, 0, 1, 2, 3, 4, 5] (G := [(a58, ro 2 (o_String (.ref b59) (.int 0))), (b59, ro 2 (ar "" .byte (([] : List Int32).map own_by))), (q2, ro ts2 (o_String (.ref b2) (.int 0))), (b2, ro tb2 (ar D2 .byte (mm2.map own_by))), (q1, ro ts1 (o_String (.ref b1) (.int 0))), (b1, ro tb1 (ar D1 .byte (mm1.map own_by))), (q0, ro ts0 (o_String (.ref b0) (.int 0))), (b0, ro tb0 (ar D0 .byte (mm0.map own_by)))]) rfl ?_
          show Goes _ _ _ _ _ _ _ _ _ _ _ _ _ _ _ _ _ _ _ _ [(a58, ro 2 (o_String (.ref b59) (.int 0))), (b59, ro 2 (ar "" .byte (([] : List Int32).map own_by))), (q2, ro ts2 (o_String (.ref b2) (.int 0))), (b2, ro tb2 (ar D2 .byte (mm2.map own_by))), (q1, ro ts1 (o_String (.ref b1) (.int 0))), (b1, ro tb1 (ar D1 .byte (mm1.map own_by))), (q0, ro ts0 (o_String (.ref b0) (.int 0))), (b0, ro tb0 (ar D0 .byte (mm0.map own_by)))] 8 20 (mkF m 167 #[.val (.int p0), .val (.int p1), .val (.int p2), .val (.int nn), .val (.int ch0), .val (.int ch1), .val (.int ch2), .val (.int ch3), .val (.int z0), .val (.int z1), .val (.int z2), .val (.int z3), .val (.ref q0), .val (.ref q1), .val (.ref q2), .unset, .unset, .unset, .unset, .unset] [.ref a58])
          exact J3 vm0 k0 a58 b59 2 2 "" [] X (Or.inr ⟨by simpa [ifCond.holds] using q55, rfl⟩)
      refine Goes.if1 X (pc' := 145) (o := 8) (cd := .eq) (fun q60 => ?_) (fun q60 => ?_)
      · refine Goes.runS X [(.iload 6, 2)] (S' := [.int ch2]) (pc' := 147) rfl ?_
        refine Goes.callS X 0 [] [0, 1, 2, 3] (D_vof l Z a0 h0 hw cs hCS hcs ch2 lc2) (wd hw 1 rfl) (wd hw 2 rfl) (wd hw 3 rfl) (wd hw 4 rfl) pd_y_0 rfl (st := []) rfl rfl (G := [(q1, ro ts1 (o_String (.ref b1) (.int 0))), (b1, ro tb1 (ar D1 .byte (mm1.map own_by))), (q0, ro ts0 (o_String (.ref b0) (.int 0))), (b0, ro tb0 (ar D0 .byte (mm0.map own_by)))]) rfl rfl ?_
        rintro _ _ ⟨r61, t62, rfl, rfl⟩
        refine ⟨Or.inl rfl, ?_⟩
        show Goes _ _ _ _ _ _ _ _ _ _ _ _ _ _ _ _ _ _ _ _ [(r61, o_String (.ref t62) (.int 0)), (t62, oBs ([ch2].map own_by)), (q1, ro ts1 (o_String (.ref b1) (.int 0))), (b1, ro tb1 (ar D1 .byte (mm1.map own_by))), (q0, ro ts0 (o_String (.ref b0) (.int 0))), (b0, ro tb0 (ar D0 .byte (mm0.map own_by)))] 6 15 (mkF m 150 #[.val (.int p0), .val (.int p1), .val (.int p2), .val (.int nn), .val (.int ch0), .val (.int ch1), .val (.int ch2), .val (.int ch3), .val (.int z0), .val (.int z1), .val (.int z2), .val (.int z3), .val (.ref q0), .val (.ref q1), .unset, .unset, .unset, .unset, .unset, .unset] [.ref r61])
        exact J2 vm0 k0 r61 t62 0 0 "[B" [ch2] X (Or.inl ⟨by simpa [ifCond.holds] using q60, rfl⟩)
      · refine Goes.ldcR X 1 (([] : List Int32).map own_by) 0 (wd hw 27 rfl) (own_wS hw) (by decide) (own_Lv hw) (own_Lc hw) own_u8 (by decide) (by decide) (by decide) (fun a63 b64 vm0 k0 X => ?_)
        show Goes _ _ _ _ _ _ _ _ _ _ _ _ _ _ _ _ _ _ _ _ [(q1, ro ts1 (o_String (.ref b1) (.int 0))), (b1, ro tb1 (ar D1 .byte (mm1.map own_by))), (q0, ro ts0 (o_String (.ref b0) (.int 0))), (b0, ro tb0 (ar D0 .byte (mm0.map own_by))), (a63, ro 2 (o_String (.ref b64) (.int 0))), (b64, ro 2 (ar "" .byte (([] : List Int32).map own_by)))] 6 15 (mkF m 142 #[.val (.int p0), .val (.int p1), .val (.int p2), .val (.int nn), .val (.int ch0), .val (.int ch1), .val (.int ch2), .val (.int ch3), .val (.int z0), .val (.int z1), .val (.int z2), .val (.int z3), .val (.ref q0), .val (.ref q1), .unset, .unset, .unset, .unset, .unset, .unset] [.ref a63])
        refine Goes.goto X (o := 8) (pc' := 150) ?_
        refine Goes.sub [4, 5, 0, 1, 2, 3] (G := [(a63, ro 2 (o_String (.ref b64) (.int 0))), (b64, ro 2 (ar "" .byte (([] : List Int32).map own_by))), (q1, ro ts1 (o_String (.ref b1) (.int 0))), (b1, ro tb1 (ar D1 .byte (mm1.map own_by))), (q0, ro ts0 (o_String (.ref b0) (.int 0))), (b0, ro tb0 (ar D0 .byte (mm0.map own_by)))]) rfl ?_
        show Goes _ _ _ _ _ _ _ _ _ _ _ _ _ _ _ _ _ _ _ _ [(a63, ro 2 (o_String (.ref b64) (.int 0))), (b64, ro 2 (ar "" .byte (([] : List Int32).map own_by))), (q1, ro ts1 (o_String (.ref b1) (.int 0))), (b1, ro tb1 (ar D1 .byte (mm1.map own_by))), (q0, ro ts0 (o_String (.ref b0) (.int 0))), (b0, ro tb0 (ar D0 .byte (mm0.map own_by)))] 6 15 (mkF m 150 #[.val (.int p0), .val (.int p1), .val (.int p2), .val (.int nn), .val (.int ch0), .val (.int ch1), .val (.int ch2), .val (.int ch3), .val (.int z0), .val (.int z1), .val (.int z2), .val (.int z3), .val (.ref q0), .val (.ref q1), .unset, .unset, .unset, .unset, .unset, .unset] [.ref a63])
        exact J2 vm0 k0 a63 b64 2 2 "" [] X (Or.inr ⟨by simpa [ifCond.holds] using q60, rfl⟩)
    refine Goes.if1 X (pc' := 128) (o := 8) (cd := .eq) (fun q65 => ?_) (fun q65 => ?_)
    · refine Goes.runS X [(.iload 5, 2)] (S' := [.int ch1]) (pc' := 130) rfl ?_
      refine Goes.callS X 0 [] [0, 1] (D_vof l Z a0 h0 hw cs hCS hcs ch1 lc1) (wd hw 1 rfl) (wd hw 2 rfl) (wd hw 3 rfl) (wd hw 4 rfl) pd_y_0 rfl (st := []) rfl rfl (G := [(q0, ro ts0 (o_String (.ref b0) (.int 0))), (b0, ro tb0 (ar D0 .byte (mm0.map own_by)))]) rfl rfl ?_
      rintro _ _ ⟨r66, t67, rfl, rfl⟩
      refine ⟨Or.inl rfl, ?_⟩
      show Goes _ _ _ _ _ _ _ _ _ _ _ _ _ _ _ _ _ _ _ _ [(r66, o_String (.ref t67) (.int 0)), (t67, oBs ([ch1].map own_by)), (q0, ro ts0 (o_String (.ref b0) (.int 0))), (b0, ro tb0 (ar D0 .byte (mm0.map own_by)))] 4 10 (mkF m 133 #[.val (.int p0), .val (.int p1), .val (.int p2), .val (.int nn), .val (.int ch0), .val (.int ch1), .val (.int ch2), .val (.int ch3), .val (.int z0), .val (.int z1), .val (.int z2), .val (.int z3), .val (.ref q0), .unset, .unset, .unset, .unset, .unset, .unset, .unset] [.ref r66])
      exact J1 vm0 k0 r66 t67 0 0 "[B" [ch1] X (Or.inl ⟨by simpa [ifCond.holds] using q65, rfl⟩)
    · refine Goes.ldcR X 1 (([] : List Int32).map own_by) 0 (wd hw 27 rfl) (own_wS hw) (by decide) (own_Lv hw) (own_Lc hw) own_u8 (by decide) (by decide) (by decide) (fun a68 b69 vm0 k0 X => ?_)
      show Goes _ _ _ _ _ _ _ _ _ _ _ _ _ _ _ _ _ _ _ _ [(q0, ro ts0 (o_String (.ref b0) (.int 0))), (b0, ro tb0 (ar D0 .byte (mm0.map own_by))), (a68, ro 2 (o_String (.ref b69) (.int 0))), (b69, ro 2 (ar "" .byte (([] : List Int32).map own_by)))] 4 10 (mkF m 125 #[.val (.int p0), .val (.int p1), .val (.int p2), .val (.int nn), .val (.int ch0), .val (.int ch1), .val (.int ch2), .val (.int ch3), .val (.int z0), .val (.int z1), .val (.int z2), .val (.int z3), .val (.ref q0), .unset, .unset, .unset, .unset, .unset, .unset, .unset] [.ref a68])
      refine Goes.goto X (o := 8) (pc' := 133) ?_
      refine Goes.sub [2, 3, 0, 1] (G := [(a68, ro 2 (o_String (.ref b69) (.int 0))), (b69, ro 2 (ar "" .byte (([] : List Int32).map own_by))), (q0, ro ts0 (o_String (.ref b0) (.int 0))), (b0, ro tb0 (ar D0 .byte (mm0.map own_by)))]) rfl ?_
      show Goes _ _ _ _ _ _ _ _ _ _ _ _ _ _ _ _ _ _ _ _ [(a68, ro 2 (o_String (.ref b69) (.int 0))), (b69, ro 2 (ar "" .byte (([] : List Int32).map own_by))), (q0, ro ts0 (o_String (.ref b0) (.int 0))), (b0, ro tb0 (ar D0 .byte (mm0.map own_by)))] 4 10 (mkF m 133 #[.val (.int p0), .val (.int p1), .val (.int p2), .val (.int nn), .val (.int ch0), .val (.int ch1), .val (.int ch2), .val (.int ch3), .val (.int z0), .val (.int z1), .val (.int z2), .val (.int z3), .val (.ref q0), .unset, .unset, .unset, .unset, .unset, .unset, .unset] [.ref a68])
      exact J1 vm0 k0 a68 b69 2 2 "" [] X (Or.inr ⟨by simpa [ifCond.holds] using q65, rfl⟩)
  refine Goes.if1 X (pc' := 111) (o := 8) (cd := .eq) (fun q70 => ?_) (fun q70 => ?_)
  · refine Goes.runS X [(.iload 4, 2)] (S' := [.int ch0]) (pc' := 113) rfl ?_
    refine Goes.callS X 0 [] [] (D_vof l Z a0 h0 hw cs hCS hcs ch0 lc0) (wd hw 1 rfl) (wd hw 2 rfl) (wd hw 3 rfl) (wd hw 4 rfl) pd_y_0 rfl (st := []) rfl rfl (G := []) rfl rfl ?_
    rintro _ _ ⟨r71, t72, rfl, rfl⟩
    refine ⟨Or.inl rfl, ?_⟩
    show Goes _ _ _ _ _ _ _ _ _ _ _ _ _ _ _ _ _ _ _ _ [(r71, o_String (.ref t72) (.int 0)), (t72, oBs ([ch0].map own_by))] 2 5 (mkF m 116 #[.val (.int p0), .val (.int p1), .val (.int p2), .val (.int nn), .val (.int ch0), .val (.int ch1), .val (.int ch2), .val (.int ch3), .val (.int z0), .val (.int z1), .val (.int z2), .val (.int z3), .unset, .unset, .unset, .unset, .unset, .unset, .unset, .unset] [.ref r71])
    exact J0 vm0 k0 r71 t72 0 0 "[B" [ch0] X (Or.inl ⟨by simpa [ifCond.holds] using q70, rfl⟩)
  · refine Goes.ldcR X 1 (([] : List Int32).map own_by) 0 (wd hw 27 rfl) (own_wS hw) (by decide) (own_Lv hw) (own_Lc hw) own_u8 (by decide) (by decide) (by decide) (fun a73 b74 vm0 k0 X => ?_)
    show Goes _ _ _ _ _ _ _ _ _ _ _ _ _ _ _ _ _ _ _ _ [(a73, ro 2 (o_String (.ref b74) (.int 0))), (b74, ro 2 (ar "" .byte (([] : List Int32).map own_by)))] 2 5 (mkF m 108 #[.val (.int p0), .val (.int p1), .val (.int p2), .val (.int nn), .val (.int ch0), .val (.int ch1), .val (.int ch2), .val (.int ch3), .val (.int z0), .val (.int z1), .val (.int z2), .val (.int z3), .unset, .unset, .unset, .unset, .unset, .unset, .unset, .unset] [.ref a73])
    refine Goes.goto X (o := 8) (pc' := 116) ?_
    refine Goes.sub [0, 1] (G := [(a73, ro 2 (o_String (.ref b74) (.int 0))), (b74, ro 2 (ar "" .byte (([] : List Int32).map own_by)))]) rfl ?_
    show Goes _ _ _ _ _ _ _ _ _ _ _ _ _ _ _ _ _ _ _ _ [(a73, ro 2 (o_String (.ref b74) (.int 0))), (b74, ro 2 (ar "" .byte (([] : List Int32).map own_by)))] 2 5 (mkF m 116 #[.val (.int p0), .val (.int p1), .val (.int p2), .val (.int nn), .val (.int ch0), .val (.int ch1), .val (.int ch2), .val (.int ch3), .val (.int z0), .val (.int z1), .val (.int z2), .val (.int z3), .unset, .unset, .unset, .unset, .unset, .unset, .unset, .unset] [.ref a73])
    exact J0 vm0 k0 a73 b74 2 2 "" [] X (Or.inr ⟨by simpa [ifCond.holds] using q70, rfl⟩)
set_option maxRecDepth 65536 in
set_option maxHeartbeats 40000000 in
theorem comes_1 {Post : Tables → Env → Array Value → State → Outcome → State → Prop} (hpost : ∀ tb e args s v u, (limb_1_1.after args s (.returned v) u = true ∧ limb_1_2.after args s (.returned v) u = true ∧ True) → ReturnedEndW s (.returned v) u (Jvm.fieldLocs frame_1_writes args s ++ Jvm.arrayLocs frame_1_arrays args s ++ Jvm.staticLocs frame_1_statics s) 48 5376 → Post tb e args s (.returned v) u) :
    ArmFor flags0 classFile x code maxLocals ret World_1 tables_1 room_1 Calls_1 rest_1 Pre_1 Post := by
  intro l hfl _ _ p e ha hc hk s m args below hf hA hF happ hP
  obtain ⟨hcalls, hrest, hpre⟩ := hP
  obtain ⟨-, -, -, hnamed, -, -, -, hat⟩ := (Spec.applies_iff hf).mp happ
  obtain ⟨hg, hn⟩ := and_e (Cond.before_iff.mp (show (Jvm.Cond.and given_1 narrow_1).before args s = true from hpre))
  obtain ⟨h1, h2⟩ := and_e hg
  obtain ⟨w0, w1, w2, rfl⟩ : ∃ w0 w1 w2 : Value, args = #[w0, w1, w2] := by
    have hs : args.size = 3 := by simpa [Cond.value, given_1] using h1
    obtain ⟨L⟩ := args
    match L, hs with
    | [w0, w1, w2], _ => exact ⟨w0, w1, w2, rfl⟩
  have hw := fun d (hd : d ∈ tables_1) => atoms_spec (ws := Jvm.Cond.code x code maxLocals ret :: tables_1) hat d (List.mem_cons_of_mem _ hd)
  have hfit : Fit s := fun {y c} hc i hi => by
    obtain ⟨ha, rfl⟩ := Array.getElem?_eq_some_iff.mp hc
    have q := List.all_eq_true.mp ((Array.all_eq_true_iff_forall_mem.mp hF) _ (Array.getElem_mem ha)) i (List.mem_range.mpr hi)
    simpa [Array.getElem?_eq_getElem hi] using q
  obtain ⟨k0, h2⟩ := and_e h2
  obtain ⟨z0, ez0⟩ := is_v k0
  obtain rfl : w0 = (.int z0) := Option.some.inj ez0
  obtain ⟨k1, h2⟩ := and_e h2
  obtain ⟨z1, ez1⟩ := is_v k1
  obtain rfl : w1 = (.int z1) := Option.some.inj ez1
  have k2 := h2
  obtain ⟨z2, ez2⟩ := is_v k2
  obtain rfl : w2 = (.int z2) := Option.some.inj ez2
  obtain ⟨hsets, hown0⟩ := atoms_of _ (rest_1_c_eq ▸ (show rest_1_c.before _ s = true from hrest))
  have n5 := not_v (Cond.before_iff.mp (hsets _ (List.mem_of_getElem? (i := 2) rfl)))
  obtain ⟨cs, ecs⟩ := is_v (Cond.before_iff.mp (hsets _ (List.mem_of_getElem? (i := 1) rfl)))
  have hCS : Sta s s.heap "java/lang/String" "COMPACT_STRINGS" "Z" (.int cs) := Sta.start ecs (Or.inl (hsets _ (List.mem_of_getElem? (i := 0) rfl)))
  have hcs : ¬ (cs = (0 : Int32)) := gotF (Cond.eq_ints ecs (Term.int_eval (0))) n5
  obtain ⟨sio, esio, rsio⟩ := isR_v (Cond.before_iff.mp (hsets _ (List.mem_of_getElem? (i := 8) rfl)))
  have hSIO : Sta s s.heap "jdk/internal/util/Preconditions" "SIOOBE_FORMATTER" "Ljava/util/function/BiFunction;" sio := Sta.start esio (Or.inl (hsets _ (List.mem_of_getElem? (i := 7) rfl)))
  have hsio : sio.category = 1 := own_cat rsio
  have HS := Hp.startW s _ own_EL (own_EW hw) (fun p hp => hcalls.1 p hp) (Cond.before_iff.mpr (Cond.before_iff.mp (hsets _ (List.mem_of_getElem? (i := 2) rfl)))) (wd hw 15 rfl) (wd hw 11 rfl)
  have D := D_law l s _ s.heap hw cs hCS hcs sio hSIO hsio z0 z1 z2
  obtain ⟨n, o, g1, g2, g3, v, L, rfl, ⟨N, F', k1, hQ, -⟩, hq⟩ := D tables_1 s.heap p e ha hc hk s m _ below hf ((Spec.applies_iff_loose hf).mp happ).1 ⟨rfl, State.Warmed39.refl s, rfl, HS⟩ trivial
  obtain rfl := hQ
  exact ⟨n, _, g1, g2, g3, hpost _ _ _ _ _ _ ⟨Cond.after_iff.mpr rfl, Cond.after_iff.mpr (eq_i res_at (Term.int_eval (1)) rfl), trivial⟩ ⟨hq.1, hq.2.1, hq.2.2.1, (hq.2.2.2.sift fun y hy => Or.inr (N y hy)).mono (by decide) (by decide)⟩⟩
theorem main_1_1 : Claimed_1_1 := comes_1 fun _ _ _ _ _ _ h hF => ⟨h.1, hF⟩
theorem main_1_2 : Claimed_1_2 := comes_1 fun _ _ _ _ _ _ h hF => ⟨h.2.1, hF⟩
end Jvm.Pilot.@@N@@
namespace Jvm.Pilot.@@N@@
open Jvm Jvm.ClassFile Sem Op Lib Jvm.Free Jvm.Stand Jvm.Pilot.@@N@@.Jvm.D
/-! MADE BY PROGRAM (witnessworld.py) out of the Statement's table words and the real class files: 26 classes; the members and pool entries that the words name. The judged class is class 1, her method 1. -/
namespace start1
open Jvm.ClassFile
def u (s : String) : CpInfo := .utf8 (stringToUtf16 s)
/-- a pool by its gaps: so many unusable entries, then the entry; so many at the end -/
def gap : Nat → List CpInfo → List CpInfo
  | 0, r => r
  | n + 1, r => .unusable :: gap n r
def poolList (es : List (Nat × CpInfo)) (last : Nat) : List CpInfo := es.foldr (fun e r => gap e.1 (e.2 :: r)) (gap last [])
def pool (es : List (Nat × CpInfo)) (last : Nat) : Array CpInfo := ⟨poolList es last⟩
def fileOf (pool : Array CpInfo) (this : Nat) (attrs : Array Attribute := #[]) (ms : Array MethodInfo := #[]) (fl : Nat := 33) (sup : Nat := 0) (ifs : Array Nat := #[]) (fds : Array FieldInfo := #[]) : ClassFile where
  minorVersion := 0
  majorVersion := 65
  constantPool := pool
  accessFlags := fl
  thisClass := this
  superClass := sup
  interfaces := ifs
  fields := fds
  methods := ms
  attributes := attrs
def plain (name : String) (sup : Option ClassId) : Class where
  name := name
  kind := .ordinary
  loader := none
  accessFlags := 33
  super := sup
  interfaces := #[]
  cf := none
  fields := #[]
  methods := #[]
  instanceTypes := #[]
  staticTypes := #[]
  resolved := #[]
  callSites := []
  init := .initialized
  statics := none
  mirror := none

def pool0 : Array CpInfo := pool [(5, u "<init>"), (0, u "()V"), (1, .class_ 10), (1, u "java/lang/Object"), (85, u "clone"), (0, u "()Ljava/lang/Object;")] 26

def k0c0 : Code := { maxStack := 0, maxLocals := 1, code := object_method_1_code, exceptionTable := #[], attributes := #[] }
def k0m0 : Method := { name := "<init>", desc := "()V", sig := { parameters := [], returnType := none }, accessFlags := 1, code := some k0c0 }
def k0m1 : Method := { name := "clone", desc := "()Ljava/lang/Object;", sig := { parameters := [], returnType := some (.object "java/lang/Object") }, accessFlags := 260, code := none }
/-- java/lang/Object -/
def k0 : Class := { plain "java/lang/Object" none with
  accessFlags := 33
  interfaces := #[]
  cf := some (fileOf pool0 8 #[] #[{ accessFlags := 1, nameIndex := 5, descriptorIndex := 6, attributes := #[] }, { accessFlags := 260, nameIndex := 96, descriptorIndex := 97, attributes := #[] }] 33 0 #[] #[])
  fields := #[]
  methods := #[k0m0, k0m1]
  instanceTypes := #[]
  staticTypes := #[]
  resolved := Array.replicate 124 none
  statics := none }

def pool1 : Array CpInfo := pool [(2, .class_ 4), (1, u "java/lang/Object"), (0, u "<init>"), (0, u "()V"), (0, .integer 2147483647), (0, .string 9), (0, u ""), (0, .methodref 11 12), (0, .class_ 13), (0, .nameAndType 14 15), (0, u "java/lang/String"), (0, u "valueOf"), (0, u "(C)Ljava/lang/String;"), (0, .methodref 17 18), (0, .class_ 19), (0, .nameAndType 20 21), (0, u "com/example/kusuribako/kusuribako/exchange/Answers"), (0, u "jsonObject"), (0, u "([Ljava/lang/String;)Ljava/lang/String;"), (0, .methodref 23 24), (0, .class_ 25), (0, .nameAndType 26 27), (0, u "com/example/kusuribako/kusuribako/exchange/AnswersJsonObjectPinLaw"), (0, u "put"), (0, u "([CIC)I"), (0, .methodref 23 29), (0, .nameAndType 30 31), (0, u "pair"), (0, u "([CICZCZ)I"), (0, .methodref 11 33), (0, .nameAndType 34 35), (0, u "length"), (0, u "()I"), (0, .methodref 23 37), (0, .nameAndType 38 39), (0, u "at"), (0, u "(Ljava/lang/String;[CII)Z"), (0, .methodref 11 41), (0, .nameAndType 42 43), (0, u "charAt"), (0, u "(I)C"), (2, u "law"), (0, u "(III)Z")] 7

def k1m0 : Method := { name := "<init>", desc := "()V", sig := { parameters := [], returnType := none }, accessFlags := 2, code := none }
def k1c1 : Code := { maxStack := 6, maxLocals := 20, code := code, exceptionTable := #[], attributes := #[] }
def k1m1 : Method := { name := "law", desc := "(III)Z", sig := { parameters := [.int, .int, .int], returnType := some .boolean }, accessFlags := 9, code := some k1c1 }
def k1c2 : Code := { maxStack := 3, maxLocals := 3, code := method_3_code, exceptionTable := #[], attributes := #[] }
def k1m2 : Method := { name := "put", desc := "([CIC)I", sig := { parameters := [(.array .char), .int, .char], returnType := some .int }, accessFlags := 10, code := some k1c2 }
def k1c3 : Code := { maxStack := 3, maxLocals := 7, code := method_4_code, exceptionTable := #[], attributes := #[] }
def k1m3 : Method := { name := "pair", desc := "([CICZCZ)I", sig := { parameters := [(.array .char), .int, .char, .boolean, .char, .boolean], returnType := some .int }, accessFlags := 10, code := some k1c3 }
def k1c4 : Code := { maxStack := 3, maxLocals := 4, code := method_5_code, exceptionTable := #[], attributes := #[] }
def k1m4 : Method := { name := "at", desc := "(Ljava/lang/String;[CII)Z", sig := { parameters := [(.object "java/lang/String"), (.array .char), .int, .int], returnType := some .boolean }, accessFlags := 10, code := some k1c4 }
/-- com/example/kusuribako/kusuribako/exchange/AnswersJsonObjectPinLaw -/
def k1 : Class := { plain "com/example/kusuribako/kusuribako/exchange/AnswersJsonObjectPinLaw" (some 0) with
  accessFlags := 49
  interfaces := #[]
  cf := some (fileOf pool1 23 #[] #[{ accessFlags := 2, nameIndex := 5, descriptorIndex := 6, attributes := #[] }, { accessFlags := 9, nameIndex := 46, descriptorIndex := 47, attributes := #[] }, { accessFlags := 10, nameIndex := 26, descriptorIndex := 27, attributes := #[] }, { accessFlags := 10, nameIndex := 30, descriptorIndex := 31, attributes := #[] }, { accessFlags := 10, nameIndex := 38, descriptorIndex := 39, attributes := #[] }] 49 2 #[] #[])
  fields := #[]
  methods := #[k1m0, k1m1, k1m2, k1m3, k1m4]
  instanceTypes := #[]
  staticTypes := #[]
  resolved := Array.replicate 55 none
  statics := none }

def pool2 : Array CpInfo := pool [(1, .class_ 2), (0, u "java/io/Serializable"), (0, .class_ 4), (0, u "java/lang/Object")] 2

/-- java/io/Serializable -/
def k2 : Class := { plain "java/io/Serializable" (some 0) with
  accessFlags := 1537
  interfaces := #[]
  cf := some (fileOf pool2 1 #[] #[] 1537 3 #[] #[])
  fields := #[]
  methods := #[]
  instanceTypes := #[]
  staticTypes := #[]
  resolved := Array.replicate 7 none
  statics := none }

def pool3 : Array CpInfo := pool [(1, .class_ 2), (0, u "java/lang/Comparable"), (0, .class_ 4), (0, u "java/lang/Object")] 7

/-- java/lang/Comparable -/
def k3 : Class := { plain "java/lang/Comparable" (some 0) with
  accessFlags := 1537
  interfaces := #[]
  cf := some (fileOf pool3 1 #[] #[] 1537 3 #[] #[])
  fields := #[]
  methods := #[]
  instanceTypes := #[]
  staticTypes := #[]
  resolved := Array.replicate 12 none
  statics := none }

def pool4 : Array CpInfo := pool [(2, .class_ 4), (1, u "java/lang/CharSequence"), (42, .class_ 48), (0, u "java/lang/CharSequence$1CodePointIterator"), (10, .class_ 60), (0, u "java/lang/CharSequence$1CharIterator"), (5, .class_ 67), (0, u "java/lang/Object")] 63

/-- java/lang/CharSequence -/
def k4 : Class := { plain "java/lang/CharSequence" (some 0) with
  accessFlags := 1537
  interfaces := #[]
  cf := some (fileOf pool4 2 #[.nestMembers #[47, 59]] #[] 1537 66 #[] #[])
  fields := #[]
  methods := #[]
  instanceTypes := #[]
  staticTypes := #[]
  resolved := Array.replicate 131 none
  statics := none }

def pool5 : Array CpInfo := pool [(1, .class_ 2), (0, u "java/lang/constant/Constable"), (0, .class_ 4), (0, u "java/lang/Object")] 6

/-- java/lang/constant/Constable -/
def k5 : Class := { plain "java/lang/constant/Constable" (some 0) with
  accessFlags := 1537
  interfaces := #[]
  cf := some (fileOf pool5 1 #[] #[] 1537 3 #[] #[])
  fields := #[]
  methods := #[]
  instanceTypes := #[]
  staticTypes := #[]
  resolved := Array.replicate 11 none
  statics := none }

def pool6 : Array CpInfo := pool [(1, .class_ 2), (0, u "java/lang/constant/ConstantDesc"), (0, .class_ 4), (0, u "java/lang/Object")] 32

/-- java/lang/constant/ConstantDesc -/
def k6 : Class := { plain "java/lang/constant/ConstantDesc" (some 0) with
  accessFlags := 1537
  interfaces := #[]
  cf := some (fileOf pool6 1 #[] #[] 1537 3 #[] #[])
  fields := #[]
  methods := #[]
  instanceTypes := #[]
  staticTypes := #[]
  resolved := Array.replicate 37 none
  statics := none }

def pool7 : Array CpInfo := pool [(1, .methodref 2 3), (0, .class_ 4), (0, .nameAndType 5 6), (0, u "java/lang/Object"), (0, u "<init>"), (0, u "()V"), (2, .fieldref 10 11), (0, .class_ 12), (0, .nameAndType 13 14), (0, u "java/lang/String"), (0, u "value"), (0, u "[B"), (0, .fieldref 10 16), (0, .nameAndType 17 18), (0, u "coder"), (0, u "B"), (2, u "hash"), (0, u "I"), (2, u "hashIsZero"), (0, u "Z"), (11, .fieldref 10 39), (0, .nameAndType 40 26), (0, u "COMPACT_STRINGS"), (12, u "toBytes"), (0, .methodref 55 56), (0, .class_ 57), (0, .nameAndType 58 59), (0, u "java/util/Arrays"), (0, u "copyOfRange"), (0, u "([BII)[B"), (47, .class_ 109), (1, u "java/lang/StringLatin1"), (32, u "()Z"), (50, .class_ 195), (1, u "java/lang/System"), (13, .methodref 10 210), (0, .nameAndType 5 211), (0, u "([BB)V"), (0, .methodref 193 213), (0, .nameAndType 214 215), (0, u "arraycopy"), (0, u "(Ljava/lang/Object;ILjava/lang/Object;II)V"), (118, u "()I"), (0, .methodref 10 336), (0, .nameAndType 17 337), (0, u "()B"), (2, u "()[B"), (22, u "([BI)C"), (5, u "(C)Z"), (21, u "(II)V"), (35, u "(I)C"), (61, .methodref 10 490), (0, .nameAndType 5 491), (0, u "(Ljava/lang/AbstractStringBuilder;Ljava/lang/Void;)V"), (0, .methodref 10 493), (0, .nameAndType 494 142), (0, u "isLatin1"), (0, .methodref 107 496), (0, .nameAndType 497 363), (0, u "charAt"), (3, u "checkIndex"), (4, .nameAndType 507 334), (0, u "length"), (24, u "getBytes"), (16, .methodref 550 506), (0, .class_ 551), (0, u "java/lang/AbstractStringBuilder"), (0, .methodref 550 553), (0, .nameAndType 554 340), (0, u "getValue"), (20, .class_ 576), (0, u "java/lang/CharSequence"), (22, u "CASE_INSENSITIVE_ORDER"), (0, u "Ljava/util/Comparator;"), (181, u "valueOf"), (0, u "(C)Ljava/lang/String;"), (37, u "([BIB)V"), (193, .methodref 107 1016), (0, .nameAndType 1017 369), (0, u "canEncode"), (0, .methodref 107 1019), (0, .nameAndType 53 1020), (0, u "(C)[B"), (26, .methodref 550 493), (5, .fieldref 1054 1055), (0, .class_ 1056), (0, .nameAndType 1057 1058), (0, u "jdk/internal/util/Preconditions"), (0, u "SIOOBE_FORMATTER"), (0, u "Ljava/util/function/BiFunction;"), (0, .methodref 1054 1060), (0, .nameAndType 501 1061), (0, u "(IILjava/util/function/BiFunction;)I"), (39, u "serialPersistentFields"), (0, u "[Ljava/io/ObjectStreamField;"), (0, .class_ 1104), (0, u "java/lang/String$CaseInsensitiveComparator"), (1, .class_ 1107), (0, u "java/io/Serializable"), (0, .class_ 1109), (0, u "java/lang/Comparable"), (0, .class_ 1111), (0, u "java/lang/constant/Constable"), (0, .class_ 1113), (0, u "java/lang/constant/ConstantDesc"), (2, u "serialVersionUID"), (0, u "J"), (3, u "REPL"), (0, u "C"), (2, u "LATIN1"), (1, u "UTF16"), (105, u "(Ljava/lang/StringBuilder;)V")] 217

def k7m0 : Method := { name := "<init>", desc := "()V", sig := { parameters := [], returnType := none }, accessFlags := 1, code := none }
def k7c1 : Code := { maxStack := 3, maxLocals := 2, code := jdk_42_method_53_code, exceptionTable := #[], attributes := #[] }
def k7m1 : Method := { name := "<init>", desc := "(Ljava/lang/StringBuilder;)V", sig := { parameters := [(.object "java/lang/StringBuilder")], returnType := none }, accessFlags := 1, code := some k7c1 }
def k7c2 : Code := { maxStack := 2, maxLocals := 1, code := jdk_42_method_54_code, exceptionTable := #[], attributes := #[] }
def k7m2 : Method := { name := "length", desc := "()I", sig := { parameters := [], returnType := some .int }, accessFlags := 1, code := some k7c2 }
def k7c3 : Code := { maxStack := 2, maxLocals := 2, code := jdk_42_method_56_code, exceptionTable := #[], attributes := #[] }
def k7m3 : Method := { name := "charAt", desc := "(I)C", sig := { parameters := [.int], returnType := some .char }, accessFlags := 1, code := some k7c3 }
def k7c4 : Code := { maxStack := 4, maxLocals := 1, code := jdk_42_method_139_code, exceptionTable := #[], attributes := #[] }
def k7m4 : Method := { name := "valueOf", desc := "(C)Ljava/lang/String;", sig := { parameters := [.char], returnType := some (.object "java/lang/String") }, accessFlags := 9, code := some k7c4 }
def k7c5 : Code := { maxStack := 5, maxLocals := 4, code := jdk_42_method_147_code, exceptionTable := #[], attributes := #[] }
def k7m5 : Method := { name := "getBytes", desc := "([BIB)V", sig := { parameters := [(.array .byte), .int, .byte], returnType := none }, accessFlags := 0, code := some k7c5 }
def k7c6 : Code := { maxStack := 5, maxLocals := 5, code := jdk_42_method_150_code, exceptionTable := #[], attributes := #[] }
def k7m6 : Method := { name := "<init>", desc := "(Ljava/lang/AbstractStringBuilder;Ljava/lang/Void;)V", sig := { parameters := [(.object "java/lang/AbstractStringBuilder"), (.object "java/lang/Void")], returnType := none }, accessFlags := 0, code := some k7c6 }
def k7c7 : Code := { maxStack := 2, maxLocals := 3, code := jdk_42_method_151_code, exceptionTable := #[], attributes := #[] }
def k7m7 : Method := { name := "<init>", desc := "([BB)V", sig := { parameters := [(.array .byte), .byte], returnType := none }, accessFlags := 0, code := some k7c7 }
def k7c8 : Code := { maxStack := 1, maxLocals := 1, code := jdk_42_method_152_code, exceptionTable := #[], attributes := #[] }
def k7m8 : Method := { name := "coder", desc := "()B", sig := { parameters := [], returnType := some .byte }, accessFlags := 0, code := some k7c8 }
def k7c9 : Code := { maxStack := 1, maxLocals := 1, code := jdk_42_method_154_code, exceptionTable := #[], attributes := #[] }
def k7m9 : Method := { name := "isLatin1", desc := "()Z", sig := { parameters := [], returnType := some .boolean }, accessFlags := 0, code := some k7c9 }
def k7c10 : Code := { maxStack := 3, maxLocals := 2, code := jdk_42_method_155_code, exceptionTable := #[], attributes := #[] }
def k7m10 : Method := { name := "checkIndex", desc := "(II)V", sig := { parameters := [.int, .int], returnType := none }, accessFlags := 8, code := some k7c10 }
/-- java/lang/String -/
def k7 : Class := { plain "java/lang/String" (some 0) with
  accessFlags := 49
  interfaces := #[2, 3, 4, 5, 6]
  cf := some (fileOf pool7 10 #[.nestMembers #[1103]] #[{ accessFlags := 1, nameIndex := 5, descriptorIndex := 6, attributes := #[] }, { accessFlags := 1, nameIndex := 5, descriptorIndex := 1233, attributes := #[] }, { accessFlags := 1, nameIndex := 507, descriptorIndex := 334, attributes := #[] }, { accessFlags := 1, nameIndex := 497, descriptorIndex := 427, attributes := #[] }, { accessFlags := 9, nameIndex := 782, descriptorIndex := 783, attributes := #[] }, { accessFlags := 0, nameIndex := 532, descriptorIndex := 821, attributes := #[] }, { accessFlags := 0, nameIndex := 5, descriptorIndex := 491, attributes := #[] }, { accessFlags := 0, nameIndex := 5, descriptorIndex := 211, attributes := #[] }, { accessFlags := 0, nameIndex := 17, descriptorIndex := 337, attributes := #[] }, { accessFlags := 0, nameIndex := 494, descriptorIndex := 142, attributes := #[] }, { accessFlags := 8, nameIndex := 501, descriptorIndex := 391, attributes := #[] }] 49 2 #[1106, 1108, 575, 1110, 1112] #[{ accessFlags := 18, nameIndex := 13, descriptorIndex := 14, attributes := #[] }, { accessFlags := 18, nameIndex := 17, descriptorIndex := 18, attributes := #[] }, { accessFlags := 2, nameIndex := 21, descriptorIndex := 22, attributes := #[] }, { accessFlags := 2, nameIndex := 25, descriptorIndex := 26, attributes := #[] }, { accessFlags := 26, nameIndex := 1116, descriptorIndex := 1117, attributes := #[] }, { accessFlags := 24, nameIndex := 40, descriptorIndex := 26, attributes := #[] }, { accessFlags := 26, nameIndex := 1101, descriptorIndex := 1102, attributes := #[] }, { accessFlags := 26, nameIndex := 1121, descriptorIndex := 1122, attributes := #[] }, { accessFlags := 25, nameIndex := 599, descriptorIndex := 600, attributes := #[] }, { accessFlags := 24, nameIndex := 1125, descriptorIndex := 18, attributes := #[] }, { accessFlags := 24, nameIndex := 1127, descriptorIndex := 18, attributes := #[] }])
  fields := #[{ name := "value", type := (.array .byte), accessFlags := 18, slot := 0, constantValue := 0 }, { name := "coder", type := .byte, accessFlags := 18, slot := 1, constantValue := 0 }, { name := "hash", type := .int, accessFlags := 2, slot := 2, constantValue := 0 }, { name := "hashIsZero", type := .boolean, accessFlags := 2, slot := 3, constantValue := 0 }, { name := "serialVersionUID", type := .long, accessFlags := 26, slot := 0, constantValue := 0 }, { name := "COMPACT_STRINGS", type := .boolean, accessFlags := 24, slot := 1, constantValue := 0 }, { name := "serialPersistentFields", type := (.array (.object "java/io/ObjectStreamField")), accessFlags := 26, slot := 2, constantValue := 0 }, { name := "REPL", type := .char, accessFlags := 26, slot := 3, constantValue := 0 }, { name := "CASE_INSENSITIVE_ORDER", type := (.object "java/util/Comparator"), accessFlags := 25, slot := 4, constantValue := 0 }, { name := "LATIN1", type := .byte, accessFlags := 24, slot := 5, constantValue := 0 }, { name := "UTF16", type := .byte, accessFlags := 24, slot := 6, constantValue := 0 }]
  methods := #[k7m0, k7m1, k7m2, k7m3, k7m4, k7m5, k7m6, k7m7, k7m8, k7m9, k7m10]
  instanceTypes := #[(.array .byte), .byte, .int, .boolean]
  staticTypes := #[.long, .boolean, (.array (.object "java/io/ObjectStreamField")), .char, (.object "java/util/Comparator"), .byte, .byte]
  resolved := Array.replicate 1451 none
  statics := some 0 }

def pool8 : Array CpInfo := pool [(1, .class_ 2), (0, u "java/lang/String"), (1, .class_ 6), (1, u "java/lang/Object"), (0, u "<init>"), (0, u "()V"), (0, .methodref 1 10), (0, .nameAndType 11 12), (0, u "checkIndex"), (0, u "(II)V"), (1, .class_ 16), (1, u "java/lang/StringLatin1"), (36, u "([BI)C"), (36, u "canEncode"), (14, u "(C)Z"), (15, u "$assertionsDisabled"), (0, u "Z"), (98, .class_ 223), (1, u "java/lang/StringLatin1$LinesSpliterator"), (28, u "charAt"), (127, u "toBytes"), (1, u "(C)[B"), (7, .class_ 391), (0, u "java/lang/StringLatin1$CharsSpliterator")] 3

def k8m0 : Method := { name := "<init>", desc := "()V", sig := { parameters := [], returnType := none }, accessFlags := 0, code := none }
def k8c1 : Code := { maxStack := 2, maxLocals := 2, code := jdk_43_method_2_code, exceptionTable := #[], attributes := #[] }
def k8m1 : Method := { name := "charAt", desc := "([BI)C", sig := { parameters := [(.array .byte), .int], returnType := some .char }, accessFlags := 9, code := some k8c1 }
def k8c2 : Code := { maxStack := 2, maxLocals := 1, code := jdk_43_method_3_code, exceptionTable := #[], attributes := #[] }
def k8m2 : Method := { name := "canEncode", desc := "(C)Z", sig := { parameters := [.char], returnType := some .boolean }, accessFlags := 9, code := some k8c2 }
def k8c3 : Code := { maxStack := 4, maxLocals := 1, code := jdk_43_method_46_code, exceptionTable := #[], attributes := #[] }
def k8m3 : Method := { name := "toBytes", desc := "(C)[B", sig := { parameters := [.char], returnType := some (.array .byte) }, accessFlags := 9, code := some k8c3 }
/-- java/lang/StringLatin1 -/
def k8 : Class := { plain "java/lang/StringLatin1" (some 0) with
  accessFlags := 48
  interfaces := #[]
  cf := some (fileOf pool8 14 #[.nestMembers #[390, 221]] #[{ accessFlags := 0, nameIndex := 7, descriptorIndex := 8, attributes := #[] }, { accessFlags := 9, nameIndex := 252, descriptorIndex := 53, attributes := #[] }, { accessFlags := 9, nameIndex := 90, descriptorIndex := 105, attributes := #[] }, { accessFlags := 9, nameIndex := 380, descriptorIndex := 382, attributes := #[] }] 48 4 #[] #[{ accessFlags := 4120, nameIndex := 121, descriptorIndex := 122, attributes := #[] }])
  fields := #[{ name := "$assertionsDisabled", type := .boolean, accessFlags := 4120, slot := 0, constantValue := 0 }]
  methods := #[k8m0, k8m1, k8m2, k8m3]
  instanceTypes := #[]
  staticTypes := #[.boolean]
  resolved := Array.replicate 395 none
  statics := none }

def pool9 : Array CpInfo := pool [(2, .class_ 4), (1, u "java/lang/Object"), (0, u "<init>"), (0, u "()V"), (0, .class_ 8), (0, u "com/example/kusuribako/kusuribako/exchange/Answers$Making"), (4, .class_ 15), (1, u "com/example/kusuribako/kusuribako/exchange/Answers"), (0, u "MAKING"), (0, u "Ljava/lang/ThreadLocal;"), (46, .class_ 65), (0, u "java/lang/StringBuilder"), (0, .string 67), (0, u "{"), (0, .methodref 64 69), (0, .nameAndType 5 70), (0, u "(Ljava/lang/String;)V"), (0, .string 72), (0, u "\""), (0, .string 74), (0, u ",\""), (0, .methodref 64 76), (0, .nameAndType 77 78), (0, u "append"), (0, u "(Ljava/lang/String;)Ljava/lang/StringBuilder;"), (0, .string 80), (0, u "\":\""), (0, .methodref 64 82), (0, .nameAndType 77 83), (0, u "(C)Ljava/lang/StringBuilder;"), (0, .methodref 64 85), (0, .nameAndType 86 87), (0, u "toString"), (0, u "()Ljava/lang/String;"), (40, u "Ljava/lang/String;"), (31, u "jsonObject"), (0, u "([Ljava/lang/String;)Ljava/lang/String;"), (33, .class_ 196), (0, u "com/example/kusuribako/kusuribako/exchange/Answers$Made"), (4, u "JSON"), (1, u "XML"), (0, u "HTML")] 42

def k9m0 : Method := { name := "<init>", desc := "()V", sig := { parameters := [], returnType := none }, accessFlags := 2, code := none }
def k9c1 : Code := { maxStack := 4, maxLocals := 3, code := prog_27_method_4_code, exceptionTable := #[], attributes := #[] }
def k9m1 : Method := { name := "jsonObject", desc := "([Ljava/lang/String;)Ljava/lang/String;", sig := { parameters := [(.array (.object "java/lang/String"))], returnType := some (.object "java/lang/String") }, accessFlags := 136, code := some k9c1 }
/-- com/example/kusuribako/kusuribako/exchange/Answers -/
def k9 : Class := { plain "com/example/kusuribako/kusuribako/exchange/Answers" (some 0) with
  accessFlags := 48
  interfaces := #[]
  cf := some (fileOf pool9 13 #[.nestMembers #[7, 195]] #[{ accessFlags := 2, nameIndex := 5, descriptorIndex := 6, attributes := #[] }, { accessFlags := 136, nameIndex := 160, descriptorIndex := 161, attributes := #[] }] 48 2 #[] #[{ accessFlags := 24, nameIndex := 201, descriptorIndex := 128, attributes := #[] }, { accessFlags := 24, nameIndex := 203, descriptorIndex := 128, attributes := #[] }, { accessFlags := 24, nameIndex := 204, descriptorIndex := 128, attributes := #[] }, { accessFlags := 26, nameIndex := 16, descriptorIndex := 17, attributes := #[] }])
  fields := #[{ name := "JSON", type := (.object "java/lang/String"), accessFlags := 24, slot := 0, constantValue := 0 }, { name := "XML", type := (.object "java/lang/String"), accessFlags := 24, slot := 1, constantValue := 0 }, { name := "HTML", type := (.object "java/lang/String"), accessFlags := 24, slot := 2, constantValue := 0 }, { name := "MAKING", type := (.object "java/lang/ThreadLocal"), accessFlags := 26, slot := 3, constantValue := 0 }]
  methods := #[k9m0, k9m1]
  instanceTypes := #[]
  staticTypes := #[(.object "java/lang/String"), (.object "java/lang/String"), (.object "java/lang/String"), (.object "java/lang/ThreadLocal")]
  resolved := Array.replicate 247 none
  statics := none }

def pool10 : Array CpInfo := pool [(1, .class_ 2), (0, u "java/lang/Appendable"), (0, .class_ 4), (0, u "java/lang/Object")] 9

/-- java/lang/Appendable -/
def k10 : Class := { plain "java/lang/Appendable" (some 0) with
  accessFlags := 1537
  interfaces := #[]
  cf := some (fileOf pool10 1 #[] #[] 1537 3 #[] #[])
  fields := #[]
  methods := #[]
  instanceTypes := #[]
  staticTypes := #[]
  resolved := Array.replicate 14 none
  statics := none }

def pool11 : Array CpInfo := pool [(1, .class_ 2), (0, u "java/lang/String"), (0, .methodref 4 5), (0, .class_ 6), (0, .nameAndType 7 8), (0, u "java/lang/Object"), (0, u "<init>"), (0, u "()V"), (1, .class_ 12), (1, u "java/lang/AbstractStringBuilder"), (0, u "EMPTYVALUE"), (0, u "[B"), (0, .fieldref 10 16), (0, .nameAndType 17 14), (0, u "value"), (0, .fieldref 1 19), (0, .nameAndType 20 21), (0, u "COMPACT_STRINGS"), (0, u "Z"), (0, .fieldref 10 23), (0, .nameAndType 24 25), (0, u "coder"), (0, u "B"), (6, .methodref 1 33), (0, .nameAndType 34 35), (0, u "length"), (0, u "()I"), (2, .integer 2147483631), (1, .methodref 1 41), (0, .nameAndType 24 42), (0, u "()B"), (0, .methodref 10 44), (0, .nameAndType 45 46), (0, u "append"), (0, u "(Ljava/lang/String;)Ljava/lang/AbstractStringBuilder;"), (1, .class_ 49), (0, u "java/lang/CharSequence"), (19, u "(Ljava/lang/String;)V"), (5, u "maybeLatin1"), (3, .fieldref 10 80), (0, .nameAndType 81 82), (0, u "count"), (0, u "I"), (0, .methodref 10 84), (0, .nameAndType 85 86), (0, u "isLatin1"), (0, u "()Z"), (1, .class_ 90), (1, u "java/lang/StringLatin1"), (9, .methodref 10 101), (0, .nameAndType 102 103), (0, u "ensureCapacityInternal"), (0, u "(I)V"), (87, .methodref 88 192), (0, .nameAndType 193 194), (0, u "canEncode"), (0, u "(C)Z"), (13, .methodref 10 209), (0, .nameAndType 210 211), (0, u "putStringAt"), (0, u "(ILjava/lang/String;)V"), (5, u "inflateIfNeededFor"), (2, .nameAndType 221 222), (0, u "getBytes"), (0, u "([BIB)V"), (69, u "(C)Ljava/lang/AbstractStringBuilder;"), (104, .methodref 10 398), (0, .nameAndType 217 69), (0, .methodref 1 220), (3, u "()[B"), (40, .class_ 445), (0, u "java/lang/Appendable"), (106, u "getValue")] 56

def k11m0 : Method := { name := "<init>", desc := "()V", sig := { parameters := [], returnType := none }, accessFlags := 0, code := none }
def k11c1 : Code := { maxStack := 2, maxLocals := 5, code := jdk_68_method_3_code, exceptionTable := #[], attributes := #[] }
def k11m1 : Method := { name := "<init>", desc := "(Ljava/lang/String;)V", sig := { parameters := [(.object "java/lang/String")], returnType := none }, accessFlags := 0, code := some k11c1 }
def k11c2 : Code := { maxStack := 1, maxLocals := 1, code := jdk_68_method_6_code, exceptionTable := #[], attributes := #[] }
def k11m2 : Method := { name := "length", desc := "()I", sig := { parameters := [], returnType := some .int }, accessFlags := 1, code := some k11c2 }
def k11c3 : Code := { maxStack := 4, maxLocals := 3, code := jdk_68_method_9_code, exceptionTable := #[], attributes := #[] }
def k11m3 : Method := { name := "ensureCapacityInternal", desc := "(I)V", sig := { parameters := [.int], returnType := none }, accessFlags := 2, code := some k11c3 }
def k11c4 : Code := { maxStack := 3, maxLocals := 3, code := jdk_68_method_22_code, exceptionTable := #[], attributes := #[] }
def k11m4 : Method := { name := "append", desc := "(Ljava/lang/String;)Ljava/lang/AbstractStringBuilder;", sig := { parameters := [(.object "java/lang/String")], returnType := some (.object "java/lang/AbstractStringBuilder") }, accessFlags := 1, code := some k11c4 }
def k11c5 : Code := { maxStack := 5, maxLocals := 2, code := jdk_68_method_31_code, exceptionTable := #[], attributes := #[] }
def k11m5 : Method := { name := "append", desc := "(C)Ljava/lang/AbstractStringBuilder;", sig := { parameters := [.char], returnType := some (.object "java/lang/AbstractStringBuilder") }, accessFlags := 1, code := some k11c5 }
def k11c6 : Code := { maxStack := 1, maxLocals := 1, code := jdk_68_method_64_code, exceptionTable := #[], attributes := #[] }
def k11m6 : Method := { name := "getValue", desc := "()[B", sig := { parameters := [], returnType := some (.array .byte) }, accessFlags := 16, code := some k11c6 }
def k11c7 : Code := { maxStack := 1, maxLocals := 1, code := jdk_68_method_68_code, exceptionTable := #[], attributes := #[] }
def k11m7 : Method := { name := "isLatin1", desc := "()Z", sig := { parameters := [], returnType := some .boolean }, accessFlags := 16, code := some k11c7 }
def k11c8 : Code := { maxStack := 2, maxLocals := 2, code := jdk_68_method_71_code, exceptionTable := #[], attributes := #[] }
def k11m8 : Method := { name := "inflateIfNeededFor", desc := "(Ljava/lang/String;)V", sig := { parameters := [(.object "java/lang/String")], returnType := none }, accessFlags := 2, code := some k11c8 }
def k11c9 : Code := { maxStack := 4, maxLocals := 3, code := jdk_68_method_73_code, exceptionTable := #[], attributes := #[] }
def k11m9 : Method := { name := "putStringAt", desc := "(ILjava/lang/String;)V", sig := { parameters := [.int, (.object "java/lang/String")], returnType := none }, accessFlags := 2, code := some k11c9 }
/-- java/lang/AbstractStringBuilder -/
def k11 : Class := { plain "java/lang/AbstractStringBuilder" (some 0) with
  accessFlags := 1056
  interfaces := #[10, 4]
  cf := some (fileOf pool11 10 #[] #[{ accessFlags := 0, nameIndex := 7, descriptorIndex := 8, attributes := #[] }, { accessFlags := 0, nameIndex := 7, descriptorIndex := 69, attributes := #[] }, { accessFlags := 1, nameIndex := 34, descriptorIndex := 35, attributes := #[] }, { accessFlags := 2, nameIndex := 102, descriptorIndex := 103, attributes := #[] }, { accessFlags := 1, nameIndex := 45, descriptorIndex := 46, attributes := #[] }, { accessFlags := 1, nameIndex := 45, descriptorIndex := 292, attributes := #[] }, { accessFlags := 16, nameIndex := 552, descriptorIndex := 403, attributes := #[] }, { accessFlags := 16, nameIndex := 85, descriptorIndex := 86, attributes := #[] }, { accessFlags := 2, nameIndex := 217, descriptorIndex := 69, attributes := #[] }, { accessFlags := 2, nameIndex := 210, descriptorIndex := 211, attributes := #[] }] 1056 4 #[444, 48] #[{ accessFlags := 0, nameIndex := 17, descriptorIndex := 14, attributes := #[] }, { accessFlags := 0, nameIndex := 24, descriptorIndex := 25, attributes := #[] }, { accessFlags := 0, nameIndex := 75, descriptorIndex := 21, attributes := #[] }, { accessFlags := 0, nameIndex := 81, descriptorIndex := 82, attributes := #[] }, { accessFlags := 26, nameIndex := 13, descriptorIndex := 14, attributes := #[] }])
  fields := #[{ name := "value", type := (.array .byte), accessFlags := 0, slot := 0, constantValue := 0 }, { name := "coder", type := .byte, accessFlags := 0, slot := 1, constantValue := 0 }, { name := "maybeLatin1", type := .boolean, accessFlags := 0, slot := 2, constantValue := 0 }, { name := "count", type := .int, accessFlags := 0, slot := 3, constantValue := 0 }, { name := "EMPTYVALUE", type := (.array .byte), accessFlags := 26, slot := 0, constantValue := 0 }]
  methods := #[k11m0, k11m1, k11m2, k11m3, k11m4, k11m5, k11m6, k11m7, k11m8, k11m9]
  instanceTypes := #[(.array .byte), .byte, .boolean, .int]
  staticTypes := #[(.array .byte)]
  resolved := Array.replicate 609 none
  statics := none }

def pool12 : Array CpInfo := pool [(2, .class_ 4), (1, u "java/lang/AbstractStringBuilder"), (0, u "<init>"), (1, .methodref 2 8), (0, .nameAndType 5 9), (0, u "(Ljava/lang/String;)V"), (8, .class_ 20), (1, u "java/lang/String"), (2, .methodref 24 25), (0, .class_ 26), (0, .nameAndType 27 28), (0, u "java/lang/StringBuilder"), (0, u "append"), (0, u "(Ljava/lang/String;)Ljava/lang/StringBuilder;"), (0, .methodref 2 30), (0, .nameAndType 27 31), (0, u "(Ljava/lang/String;)Ljava/lang/AbstractStringBuilder;"), (18, .methodref 2 51), (0, .nameAndType 27 52), (0, u "(C)Ljava/lang/AbstractStringBuilder;"), (84, .methodref 18 138), (0, .nameAndType 5 139), (0, u "(Ljava/lang/StringBuilder;)V"), (5, u "()V"), (10, u "()I"), (129, u "(C)Ljava/lang/StringBuilder;"), (56, .methodref 2 344), (0, .nameAndType 345 156), (0, u "length"), (3, .class_ 350), (0, u "java/lang/Appendable"), (0, .class_ 352), (0, u "java/io/Serializable"), (0, .class_ 354), (0, u "java/lang/Comparable"), (0, .class_ 356), (0, u "java/lang/CharSequence"), (0, u "serialVersionUID"), (0, u "J"), (40, u "toString"), (0, u "()Ljava/lang/String;")] 21

def k12m0 : Method := { name := "<init>", desc := "()V", sig := { parameters := [], returnType := none }, accessFlags := 1, code := none }
def k12c1 : Code := { maxStack := 2, maxLocals := 2, code := jdk_67_method_3_code, exceptionTable := #[], attributes := #[] }
def k12m1 : Method := { name := "<init>", desc := "(Ljava/lang/String;)V", sig := { parameters := [(.object "java/lang/String")], returnType := none }, accessFlags := 1, code := some k12c1 }
def k12c2 : Code := { maxStack := 2, maxLocals := 2, code := jdk_67_method_7_code, exceptionTable := #[], attributes := #[] }
def k12m2 : Method := { name := "append", desc := "(Ljava/lang/String;)Ljava/lang/StringBuilder;", sig := { parameters := [(.object "java/lang/String")], returnType := some (.object "java/lang/StringBuilder") }, accessFlags := 1, code := some k12c2 }
def k12c3 : Code := { maxStack := 2, maxLocals := 2, code := jdk_67_method_14_code, exceptionTable := #[], attributes := #[] }
def k12m3 : Method := { name := "append", desc := "(C)Ljava/lang/StringBuilder;", sig := { parameters := [.char], returnType := some (.object "java/lang/StringBuilder") }, accessFlags := 1, code := some k12c3 }
def k12c4 : Code := { maxStack := 3, maxLocals := 1, code := jdk_67_method_42_code, exceptionTable := #[], attributes := #[] }
def k12m4 : Method := { name := "toString", desc := "()Ljava/lang/String;", sig := { parameters := [], returnType := some (.object "java/lang/String") }, accessFlags := 1, code := some k12c4 }
def k12c5 : Code := { maxStack := 2, maxLocals := 2, code := jdk_67_method_80_code, exceptionTable := #[], attributes := #[] }
def k12m5 : Method := { name := "append", desc := "(Ljava/lang/String;)Ljava/lang/AbstractStringBuilder;", sig := { parameters := [(.object "java/lang/String")], returnType := some (.object "java/lang/AbstractStringBuilder") }, accessFlags := 4161, code := some k12c5 }
def k12c6 : Code := { maxStack := 1, maxLocals := 1, code := jdk_67_method_93_code, exceptionTable := #[], attributes := #[] }
def k12m6 : Method := { name := "length", desc := "()I", sig := { parameters := [], returnType := some .int }, accessFlags := 4161, code := some k12c6 }
/-- java/lang/StringBuilder -/
def k12 : Class := { plain "java/lang/StringBuilder" (some 11) with
  accessFlags := 49
  interfaces := #[10, 2, 3, 4]
  cf := some (fileOf pool12 24 #[] #[{ accessFlags := 1, nameIndex := 5, descriptorIndex := 145, attributes := #[] }, { accessFlags := 1, nameIndex := 5, descriptorIndex := 9, attributes := #[] }, { accessFlags := 1, nameIndex := 27, descriptorIndex := 28, attributes := #[] }, { accessFlags := 1, nameIndex := 27, descriptorIndex := 286, attributes := #[] }, { accessFlags := 1, nameIndex := 399, descriptorIndex := 400, attributes := #[] }, { accessFlags := 4161, nameIndex := 27, descriptorIndex := 31, attributes := #[] }, { accessFlags := 4161, nameIndex := 345, descriptorIndex := 156, attributes := #[] }] 49 2 #[349, 351, 353, 355] #[{ accessFlags := 24, nameIndex := 357, descriptorIndex := 358, attributes := #[] }])
  fields := #[{ name := "serialVersionUID", type := .long, accessFlags := 24, slot := 0, constantValue := 0 }]
  methods := #[k12m0, k12m1, k12m2, k12m3, k12m4, k12m5, k12m6]
  instanceTypes := #[(.array .byte), .byte, .boolean, .int]
  staticTypes := #[.long]
  resolved := Array.replicate 422 none
  statics := none }

def pool13 : Array CpInfo := pool [(2, .class_ 4), (1, u "java/lang/Object"), (0, u "<init>"), (0, u "()V"), (1, .class_ 10), (1, u "java/lang/System"), (0, u "allowSecurityManager"), (0, u "I"), (16, u "cons"), (0, u "Ljava/io/Console;"), (77, .class_ 110), (1, u "java/lang/System$CallersHolder"), (43, u "initialErrStream"), (0, u "Ljava/io/PrintStream;"), (19, u "security"), (0, u "Ljava/lang/SecurityManager;"), (31, .class_ 209), (0, u "java/lang/System$1"), (7, u "props"), (0, u "Ljava/util/Properties;"), (2, u "lineSeparator"), (0, u "Ljava/lang/String;"), (96, .class_ 321), (1, u "java/lang/System$LoggerFinder"), (5, .class_ 328), (0, u "java/lang/System$Logger"), (67, u "err"), (2, u "out"), (91, u "notSupportedJnuEncoding"), (15, u "in"), (17, u "initialIn"), (0, u "Ljava/io/InputStream;"), (35, u "bootLayer"), (0, u "Ljava/lang/ModuleLayer;"), (99, .class_ 664), (0, u "java/lang/System$2"), (9, u "NEVER"), (2, u "MAYBE"), (49, u "arraycopy"), (0, u "(Ljava/lang/Object;ILjava/lang/Object;II)V"), (72, .class_ 802), (0, u "java/lang/System$Logger$Level")] 31

def k13m0 : Method := { name := "<init>", desc := "()V", sig := { parameters := [], returnType := none }, accessFlags := 2, code := none }
def k13m1 : Method := { name := "arraycopy", desc := "(Ljava/lang/Object;ILjava/lang/Object;II)V", sig := { parameters := [(.object "java/lang/Object"), .int, (.object "java/lang/Object"), .int, .int], returnType := none }, accessFlags := 265, code := none }
/-- java/lang/System -/
def k13 : Class := { plain "java/lang/System" (some 0) with
  accessFlags := 49
  interfaces := #[]
  cf := some (fileOf pool13 8 #[.nestMembers #[319, 327, 801, 108, 663, 208]] #[{ accessFlags := 2, nameIndex := 5, descriptorIndex := 6, attributes := #[] }, { accessFlags := 265, nameIndex := 727, descriptorIndex := 728, attributes := #[] }] 49 2 #[] #[{ accessFlags := 25, nameIndex := 507, descriptorIndex := 526, attributes := #[] }, { accessFlags := 25, nameIndex := 399, descriptorIndex := 155, attributes := #[] }, { accessFlags := 25, nameIndex := 396, descriptorIndex := 155, attributes := #[] }, { accessFlags := 10, nameIndex := 525, descriptorIndex := 526, attributes := #[] }, { accessFlags := 26, nameIndex := 674, descriptorIndex := 12, attributes := #[] }, { accessFlags := 26, nameIndex := 677, descriptorIndex := 12, attributes := #[] }, { accessFlags := 10, nameIndex := 11, descriptorIndex := 12, attributes := #[] }, { accessFlags := 74, nameIndex := 175, descriptorIndex := 176, attributes := #[] }, { accessFlags := 10, nameIndex := 491, descriptorIndex := 222, attributes := #[] }, { accessFlags := 74, nameIndex := 29, descriptorIndex := 30, attributes := #[] }, { accessFlags := 74, nameIndex := 154, descriptorIndex := 155, attributes := #[] }, { accessFlags := 10, nameIndex := 217, descriptorIndex := 218, attributes := #[] }, { accessFlags := 10, nameIndex := 221, descriptorIndex := 222, attributes := #[] }, { accessFlags := 8, nameIndex := 562, descriptorIndex := 563, attributes := #[] }])
  fields := #[{ name := "in", type := (.object "java/io/InputStream"), accessFlags := 25, slot := 0, constantValue := 0 }, { name := "out", type := (.object "java/io/PrintStream"), accessFlags := 25, slot := 1, constantValue := 0 }, { name := "err", type := (.object "java/io/PrintStream"), accessFlags := 25, slot := 2, constantValue := 0 }, { name := "initialIn", type := (.object "java/io/InputStream"), accessFlags := 10, slot := 3, constantValue := 0 }, { name := "NEVER", type := .int, accessFlags := 26, slot := 4, constantValue := 0 }, { name := "MAYBE", type := .int, accessFlags := 26, slot := 5, constantValue := 0 }, { name := "allowSecurityManager", type := .int, accessFlags := 10, slot := 6, constantValue := 0 }, { name := "security", type := (.object "java/lang/SecurityManager"), accessFlags := 74, slot := 7, constantValue := 0 }, { name := "notSupportedJnuEncoding", type := (.object "java/lang/String"), accessFlags := 10, slot := 8, constantValue := 0 }, { name := "cons", type := (.object "java/io/Console"), accessFlags := 74, slot := 9, constantValue := 0 }, { name := "initialErrStream", type := (.object "java/io/PrintStream"), accessFlags := 74, slot := 10, constantValue := 0 }, { name := "props", type := (.object "java/util/Properties"), accessFlags := 10, slot := 11, constantValue := 0 }, { name := "lineSeparator", type := (.object "java/lang/String"), accessFlags := 10, slot := 12, constantValue := 0 }, { name := "bootLayer", type := (.object "java/lang/ModuleLayer"), accessFlags := 8, slot := 13, constantValue := 0 }]
  methods := #[k13m0, k13m1]
  instanceTypes := #[]
  staticTypes := #[(.object "java/io/InputStream"), (.object "java/io/PrintStream"), (.object "java/io/PrintStream"), (.object "java/io/InputStream"), .int, .int, .int, (.object "java/lang/SecurityManager"), (.object "java/lang/String"), (.object "java/io/Console"), (.object "java/io/PrintStream"), (.object "java/util/Properties"), (.object "java/lang/String"), (.object "java/lang/ModuleLayer")]
  resolved := Array.replicate 834 none
  statics := none }

def pool14 : Array CpInfo := pool [(2, .class_ 4), (1, u "java/lang/Object"), (0, u "<init>"), (0, u "()V"), (7, .class_ 16), (1, u "java/util/Arrays"), (57, .class_ 76), (1, u "java/util/Arrays$NaturalOrder"), (32, u "()Ljava/lang/Object;"), (3, .class_ 115), (1, u "java/util/Arrays$LegacyMergeSort"), (1, u "Z"), (10, .nameAndType 129 109), (0, u "clone"), (9, u "copyOfRange"), (10, .methodref 151 152), (0, .class_ 153), (0, .nameAndType 154 155), (0, u "java/lang/System"), (0, u "arraycopy"), (0, u "(Ljava/lang/Object;ILjava/lang/Object;II)V"), (148, .methodref 305 306), (0, .class_ 307), (0, .nameAndType 308 309), (0, u "java/lang/Math"), (0, u "min"), (0, u "(II)I"), (0, .methodref 311 128), (0, .class_ 312), (0, u "[B"), (26, .methodref 14 340), (0, .nameAndType 341 342), (0, u "copyOfRangeByte"), (0, u "([BII)[B"), (0, .methodref 14 344), (0, .nameAndType 345 346), (0, u "checkLength"), (0, u "(II)V"), (28, .class_ 376), (0, u "java/util/Arrays$ArrayList"), (68, u "$assertionsDisabled"), (269, u "MIN_ARRAY_SORT_GRAN"), (0, u "I"), (2, u "INSERTIONSORT_THRESHOLD"), (255, .class_ 976), (0, u "java/util/Arrays$ArrayItr")] 52

def k14m0 : Method := { name := "<init>", desc := "()V", sig := { parameters := [], returnType := none }, accessFlags := 2, code := none }
def k14c1 : Code := { maxStack := 4, maxLocals := 2, code := jdk_65_method_131_code, exceptionTable := #[], attributes := #[] }
def k14m1 : Method := { name := "checkLength", desc := "(II)V", sig := { parameters := [.int, .int], returnType := none }, accessFlags := 10, code := some k14c1 }
def k14c2 : Code := { maxStack := 3, maxLocals := 3, code := jdk_65_method_132_code, exceptionTable := #[], attributes := #[] }
def k14m2 : Method := { name := "copyOfRange", desc := "([BII)[B", sig := { parameters := [(.array .byte), .int, .int], returnType := some (.array .byte) }, accessFlags := 9, code := some k14c2 }
def k14c3 : Code := { maxStack := 6, maxLocals := 5, code := jdk_65_method_133_code, exceptionTable := #[], attributes := #[] }
def k14m3 : Method := { name := "copyOfRangeByte", desc := "([BII)[B", sig := { parameters := [(.array .byte), .int, .int], returnType := some (.array .byte) }, accessFlags := 10, code := some k14c3 }
/-- java/util/Arrays -/
def k14 : Class := { plain "java/util/Arrays" (some 0) with
  accessFlags := 49
  interfaces := #[]
  cf := some (fileOf pool14 14 #[.nestMembers #[975, 375, 113, 74]] #[{ accessFlags := 2, nameIndex := 5, descriptorIndex := 6, attributes := #[] }, { accessFlags := 10, nameIndex := 345, descriptorIndex := 346, attributes := #[] }, { accessFlags := 9, nameIndex := 139, descriptorIndex := 342, attributes := #[] }, { accessFlags := 10, nameIndex := 341, descriptorIndex := 342, attributes := #[] }] 49 2 #[] #[{ accessFlags := 26, nameIndex := 715, descriptorIndex := 716, attributes := #[] }, { accessFlags := 26, nameIndex := 719, descriptorIndex := 716, attributes := #[] }, { accessFlags := 4120, nameIndex := 445, descriptorIndex := 117, attributes := #[] }])
  fields := #[{ name := "MIN_ARRAY_SORT_GRAN", type := .int, accessFlags := 26, slot := 0, constantValue := 0 }, { name := "INSERTIONSORT_THRESHOLD", type := .int, accessFlags := 26, slot := 1, constantValue := 0 }, { name := "$assertionsDisabled", type := .boolean, accessFlags := 4120, slot := 2, constantValue := 0 }]
  methods := #[k14m0, k14m1, k14m2, k14m3]
  instanceTypes := #[]
  staticTypes := #[.int, .int, .boolean]
  resolved := Array.replicate 1029 none
  statics := none }

def pool15 : Array CpInfo := pool [(1, .class_ 2), (0, u "java/lang/Math"), (1, .class_ 6), (1, u "java/lang/Object"), (0, u "<init>"), (0, u "()V"), (89, .class_ 100), (1, u "java/lang/Math$RandomNumberGeneratorHolder"), (71, u "negativeZeroFloatBits"), (0, u "J"), (2, u "negativeZeroDoubleBits"), (24, u "min"), (43, u "$assertionsDisabled"), (0, u "Z"), (88, u "(II)I"), (2, u "twoToTheDoubleScaleDown"), (0, u "D"), (4, u "twoToTheDoubleScaleUp"), (9, u "E"), (3, u "PI"), (2, u "TAU"), (2, u "DEGREES_TO_RADIANS"), (0, u "RADIANS_TO_DEGREES")] 94

def k15m0 : Method := { name := "<init>", desc := "()V", sig := { parameters := [], returnType := none }, accessFlags := 2, code := none }
def k15c1 : Code := { maxStack := 2, maxLocals := 2, code := jdk_29_method_69_code, exceptionTable := #[], attributes := #[] }
def k15m1 : Method := { name := "min", desc := "(II)I", sig := { parameters := [.int, .int], returnType := some .int }, accessFlags := 9, code := some k15c1 }
/-- java/lang/Math -/
def k15 : Class := { plain "java/lang/Math" (some 0) with
  accessFlags := 49
  interfaces := #[]
  cf := some (fileOf pool15 1 #[.nestMembers #[98]] #[{ accessFlags := 2, nameIndex := 7, descriptorIndex := 8, attributes := #[] }, { accessFlags := 9, nameIndex := 201, descriptorIndex := 335, attributes := #[] }] 49 4 #[] #[{ accessFlags := 25, nameIndex := 354, descriptorIndex := 339, attributes := #[] }, { accessFlags := 25, nameIndex := 358, descriptorIndex := 339, attributes := #[] }, { accessFlags := 25, nameIndex := 361, descriptorIndex := 339, attributes := #[] }, { accessFlags := 26, nameIndex := 364, descriptorIndex := 339, attributes := #[] }, { accessFlags := 26, nameIndex := 365, descriptorIndex := 339, attributes := #[] }, { accessFlags := 26, nameIndex := 172, descriptorIndex := 173, attributes := #[] }, { accessFlags := 26, nameIndex := 176, descriptorIndex := 173, attributes := #[] }, { accessFlags := 8, nameIndex := 344, descriptorIndex := 339, attributes := #[] }, { accessFlags := 8, nameIndex := 338, descriptorIndex := 339, attributes := #[] }, { accessFlags := 4120, nameIndex := 245, descriptorIndex := 246, attributes := #[] }])
  fields := #[{ name := "E", type := .double, accessFlags := 25, slot := 0, constantValue := 0 }, { name := "PI", type := .double, accessFlags := 25, slot := 1, constantValue := 0 }, { name := "TAU", type := .double, accessFlags := 25, slot := 2, constantValue := 0 }, { name := "DEGREES_TO_RADIANS", type := .double, accessFlags := 26, slot := 3, constantValue := 0 }, { name := "RADIANS_TO_DEGREES", type := .double, accessFlags := 26, slot := 4, constantValue := 0 }, { name := "negativeZeroFloatBits", type := .long, accessFlags := 26, slot := 5, constantValue := 0 }, { name := "negativeZeroDoubleBits", type := .long, accessFlags := 26, slot := 6, constantValue := 0 }, { name := "twoToTheDoubleScaleUp", type := .double, accessFlags := 8, slot := 7, constantValue := 0 }, { name := "twoToTheDoubleScaleDown", type := .double, accessFlags := 8, slot := 8, constantValue := 0 }, { name := "$assertionsDisabled", type := .boolean, accessFlags := 4120, slot := 9, constantValue := 0 }]
  methods := #[k15m0, k15m1]
  instanceTypes := #[]
  staticTypes := #[.double, .double, .double, .double, .double, .long, .long, .double, .double, .boolean]
  resolved := Array.replicate 460 none
  statics := none }

def pool16 : Array CpInfo := pool [(2, .class_ 4), (1, u "java/lang/Object"), (0, u "<init>"), (0, u "()V"), (17, .class_ 26), (1, u "jdk/internal/util/Preconditions"), (6, u "checkIndex"), (21, .class_ 56), (0, u "jdk/internal/util/Preconditions$4"), (57, .class_ 115), (0, u "jdk/internal/util/Preconditions$1"), (7, u "SIOOBE_FORMATTER"), (0, u "Ljava/util/function/BiFunction;"), (0, .class_ 126), (0, u "jdk/internal/util/Preconditions$2"), (3, u "AIOOBE_FORMATTER"), (0, .class_ 132), (0, u "jdk/internal/util/Preconditions$3"), (3, u "IOOBE_FORMATTER"), (41, u "(IILjava/util/function/BiFunction;)I")] 15

def k16m0 : Method := { name := "<init>", desc := "()V", sig := { parameters := [], returnType := none }, accessFlags := 1, code := none }
def k16c1 : Code := { maxStack := 3, maxLocals := 3, code := jdk_41_method_11_code, exceptionTable := #[], attributes := #[] }
def k16m1 : Method := { name := "checkIndex", desc := "(IILjava/util/function/BiFunction;)I", sig := { parameters := [.int, .int, (.object "java/util/function/BiFunction")], returnType := some .int }, accessFlags := 9, code := some k16c1 }
/-- jdk/internal/util/Preconditions -/
def k16 : Class := { plain "jdk/internal/util/Preconditions" (some 0) with
  accessFlags := 33
  interfaces := #[]
  cf := some (fileOf pool16 24 #[.nestMembers #[55, 131, 125, 114]] #[{ accessFlags := 1, nameIndex := 5, descriptorIndex := 6, attributes := #[] }, { accessFlags := 9, nameIndex := 33, descriptorIndex := 178, attributes := #[] }] 33 2 #[] #[{ accessFlags := 25, nameIndex := 123, descriptorIndex := 124, attributes := #[] }, { accessFlags := 25, nameIndex := 130, descriptorIndex := 124, attributes := #[] }, { accessFlags := 25, nameIndex := 136, descriptorIndex := 124, attributes := #[] }])
  fields := #[{ name := "SIOOBE_FORMATTER", type := (.object "java/util/function/BiFunction"), accessFlags := 25, slot := 0, constantValue := 0 }, { name := "AIOOBE_FORMATTER", type := (.object "java/util/function/BiFunction"), accessFlags := 25, slot := 1, constantValue := 0 }, { name := "IOOBE_FORMATTER", type := (.object "java/util/function/BiFunction"), accessFlags := 25, slot := 2, constantValue := 0 }]
  methods := #[k16m0, k16m1]
  instanceTypes := #[]
  staticTypes := #[(.object "java/util/function/BiFunction"), (.object "java/util/function/BiFunction"), (.object "java/util/function/BiFunction")]
  resolved := Array.replicate 194 none
  statics := some 1 }

def pool17 : Array CpInfo := pool [(1, .class_ 2), (0, u "java/lang/Cloneable"), (0, .class_ 4), (0, u "java/lang/Object")] 2

/-- java/lang/Cloneable -/
def k17 : Class := { plain "java/lang/Cloneable" (some 0) with
  accessFlags := 1537
  interfaces := #[]
  cf := some (fileOf pool17 1 #[] #[] 1537 3 #[] #[])
  fields := #[]
  methods := #[]
  instanceTypes := #[]
  staticTypes := #[]
  resolved := Array.replicate 7 none
  statics := none }

def pool18 : Array CpInfo := pool [(9, u "<init>"), (6, .class_ 18), (1, u "java/lang/Object"), (0, u "()V"), (1, .class_ 23), (1, u "jdk/internal/util/ArraysSupport"), (0, u "LOG2_ARRAY_LONG_INDEX_SCALE"), (0, u "I"), (2, u "U"), (0, u "Ljdk/internal/misc/Unsafe;"), (8, u "BIG_ENDIAN"), (0, u "Z"), (8, u "LOG2_BYTE_BIT_SIZE"), (4, u "LOG2_ARRAY_INT_INDEX_SCALE"), (54, u "JLA"), (0, u "Ljdk/internal/access/JavaLangAccess;"), (11, u "LOG2_ARRAY_BOOLEAN_INDEX_SCALE"), (9, u "LOG2_ARRAY_BYTE_INDEX_SCALE"), (5, u "LOG2_ARRAY_CHAR_INDEX_SCALE"), (5, u "LOG2_ARRAY_SHORT_INDEX_SCALE"), (18, u "LOG2_ARRAY_FLOAT_INDEX_SCALE"), (24, u "LOG2_ARRAY_DOUBLE_INDEX_SCALE"), (89, u "T_BOOLEAN"), (2, u "T_CHAR"), (1, u "T_FLOAT"), (1, u "T_DOUBLE"), (1, u "T_BYTE"), (1, u "T_SHORT"), (1, u "T_INT"), (1, u "T_LONG"), (1, u "SOFT_MAX_ARRAY_LENGTH")] 83

def k18m0 : Method := { name := "<init>", desc := "()V", sig := { parameters := [], returnType := none }, accessFlags := 2, code := none }
/-- jdk/internal/util/ArraysSupport -/
def k18 : Class := { plain "jdk/internal/util/ArraysSupport" (some 0) with
  accessFlags := 33
  interfaces := #[]
  cf := some (fileOf pool18 21 #[] #[{ accessFlags := 2, nameIndex := 9, descriptorIndex := 19, attributes := #[] }] 33 16 #[] #[{ accessFlags := 24, nameIndex := 28, descriptorIndex := 29, attributes := #[] }, { accessFlags := 26, nameIndex := 38, descriptorIndex := 39, attributes := #[] }, { accessFlags := 25, nameIndex := 121, descriptorIndex := 25, attributes := #[] }, { accessFlags := 25, nameIndex := 131, descriptorIndex := 25, attributes := #[] }, { accessFlags := 25, nameIndex := 137, descriptorIndex := 25, attributes := #[] }, { accessFlags := 25, nameIndex := 143, descriptorIndex := 25, attributes := #[] }, { accessFlags := 25, nameIndex := 53, descriptorIndex := 25, attributes := #[] }, { accessFlags := 25, nameIndex := 24, descriptorIndex := 25, attributes := #[] }, { accessFlags := 25, nameIndex := 162, descriptorIndex := 25, attributes := #[] }, { accessFlags := 25, nameIndex := 187, descriptorIndex := 25, attributes := #[] }, { accessFlags := 26, nameIndex := 48, descriptorIndex := 25, attributes := #[] }, { accessFlags := 25, nameIndex := 277, descriptorIndex := 25, attributes := #[] }, { accessFlags := 25, nameIndex := 280, descriptorIndex := 25, attributes := #[] }, { accessFlags := 25, nameIndex := 282, descriptorIndex := 25, attributes := #[] }, { accessFlags := 25, nameIndex := 284, descriptorIndex := 25, attributes := #[] }, { accessFlags := 25, nameIndex := 286, descriptorIndex := 25, attributes := #[] }, { accessFlags := 25, nameIndex := 288, descriptorIndex := 25, attributes := #[] }, { accessFlags := 25, nameIndex := 290, descriptorIndex := 25, attributes := #[] }, { accessFlags := 25, nameIndex := 292, descriptorIndex := 25, attributes := #[] }, { accessFlags := 26, nameIndex := 108, descriptorIndex := 109, attributes := #[] }, { accessFlags := 25, nameIndex := 294, descriptorIndex := 25, attributes := #[] }])
  fields := #[{ name := "U", type := (.object "jdk/internal/misc/Unsafe"), accessFlags := 24, slot := 0, constantValue := 0 }, { name := "BIG_ENDIAN", type := .boolean, accessFlags := 26, slot := 1, constantValue := 0 }, { name := "LOG2_ARRAY_BOOLEAN_INDEX_SCALE", type := .int, accessFlags := 25, slot := 2, constantValue := 0 }, { name := "LOG2_ARRAY_BYTE_INDEX_SCALE", type := .int, accessFlags := 25, slot := 3, constantValue := 0 }, { name := "LOG2_ARRAY_CHAR_INDEX_SCALE", type := .int, accessFlags := 25, slot := 4, constantValue := 0 }, { name := "LOG2_ARRAY_SHORT_INDEX_SCALE", type := .int, accessFlags := 25, slot := 5, constantValue := 0 }, { name := "LOG2_ARRAY_INT_INDEX_SCALE", type := .int, accessFlags := 25, slot := 6, constantValue := 0 }, { name := "LOG2_ARRAY_LONG_INDEX_SCALE", type := .int, accessFlags := 25, slot := 7, constantValue := 0 }, { name := "LOG2_ARRAY_FLOAT_INDEX_SCALE", type := .int, accessFlags := 25, slot := 8, constantValue := 0 }, { name := "LOG2_ARRAY_DOUBLE_INDEX_SCALE", type := .int, accessFlags := 25, slot := 9, constantValue := 0 }, { name := "LOG2_BYTE_BIT_SIZE", type := .int, accessFlags := 26, slot := 10, constantValue := 0 }, { name := "T_BOOLEAN", type := .int, accessFlags := 25, slot := 11, constantValue := 0 }, { name := "T_CHAR", type := .int, accessFlags := 25, slot := 12, constantValue := 0 }, { name := "T_FLOAT", type := .int, accessFlags := 25, slot := 13, constantValue := 0 }, { name := "T_DOUBLE", type := .int, accessFlags := 25, slot := 14, constantValue := 0 }, { name := "T_BYTE", type := .int, accessFlags := 25, slot := 15, constantValue := 0 }, { name := "T_SHORT", type := .int, accessFlags := 25, slot := 16, constantValue := 0 }, { name := "T_INT", type := .int, accessFlags := 25, slot := 17, constantValue := 0 }, { name := "T_LONG", type := .int, accessFlags := 25, slot := 18, constantValue := 0 }, { name := "JLA", type := (.object "jdk/internal/access/JavaLangAccess"), accessFlags := 26, slot := 19, constantValue := 0 }, { name := "SOFT_MAX_ARRAY_LENGTH", type := .int, accessFlags := 25, slot := 20, constantValue := 0 }]
  methods := #[k18m0]
  instanceTypes := #[]
  staticTypes := #[(.object "jdk/internal/misc/Unsafe"), .boolean, .int, .int, .int, .int, .int, .int, .int, .int, .int, .int, .int, .int, .int, .int, .int, .int, .int, (.object "jdk/internal/access/JavaLangAccess"), .int]
  resolved := Array.replicate 378 none
  statics := none }

/-- the primitive byte -/
def k19 : Class := { plain "byte" none with kind := .primitive 'B', accessFlags := 0x411 }
/-- [B -/
def k20 : Class := { plain "[B" (some 0) with kind := .array 19 .byte, interfaces := #[17, 2], accessFlags := 1041 }

/-- the primitive char -/
def k21 : Class := { plain "char" none with kind := .primitive 'C', accessFlags := 0x411 }
/-- [C -/
def k22 : Class := { plain "[C" (some 0) with kind := .array 21 .char, interfaces := #[17, 2], accessFlags := 1041 }

/-- the primitive int -/
def k23 : Class := { plain "int" none with kind := .primitive 'I', accessFlags := 0x411 }
/-- [I -/
def k24 : Class := { plain "[I" (some 0) with kind := .array 23 .int, interfaces := #[17, 2], accessFlags := 1041 }

/-- [Ljava/lang/String; -/
def k25 : Class := { plain "[Ljava/lang/String;" (some 0) with kind := .array 7 (.object "java/lang/String"), interfaces := #[17, 2], accessFlags := 1041 }

def heap : Heap := #[{ cls := 7, slots := #[.long 0, .int 1, .null, .int 0, .null, .int 0, .int 0], vm := .statics 7 },
  { cls := 16, slots := #[.null, .null, .null], vm := .statics 16 }]
def classes : Array Class := #[k0, k1, k2, k3, k4, k5, k6, k7, k8, k9, k10, k11, k12, k13, k14, k15, k16, k17, k18, k19, k20, k21, k22, k23, k24, k25]
def interned : List (Array UInt16 × Addr) := []
def slotsUsed : Nat := 10
def theMethod : MethodId := ⟨1, 1⟩
def args0 : Array Value := #[.int 5, .int 5, .int 5]
def aboutOver (below : List Frame) : State where
  vm := { classes := classes, interned := interned.toArray }
  heap := heap
  slotsUsed := slotsUsed
  threads := #[{ frames := .invoking theMethod args0 :: below }]
def below0 : List Frame := [.native { method := ⟨0, 0⟩, args := #[] }]
def about1 : State := aboutOver below0
def p0 : Program := .bare "" "" ""
def e0 : Env := launch0.env 0 0 0
theorem w_frames : about1.frames = Frame.invoking theMethod args0 :: below0 := rfl
set_option maxRecDepth 65536 in
theorem w_args : argsFit about1.vm theMethod args0 = true := by decide +kernel
set_option maxRecDepth 65536 in
theorem w_heap : heapFits about1 = true := by decide +kernel
set_option maxRecDepth 65536 in
theorem w_runnable : about1.curStatus? = some .runnable := by decide +kernel
set_option maxRecDepth 65536 in
theorem w_alone : about1.alone = true := by decide +kernel
set_option maxRecDepth 65536 in
theorem w_named : about1.methodNamed? x = some theMethod := by decide +kernel
set_option maxRecDepth 65536 in
theorem w_hears : about1.hears theMethod below0 = true := by decide +kernel
set_option maxRecDepth 65536 in
theorem w_ripe : about1.ripe theMethod args0 below0 = true := by decide +kernel
theorem w_running : about1.status = .running := rfl
set_option maxRecDepth 65536 in
theorem w_room : about1.hasRoom e0.platform room_1 = true :=
  launch0.hasRoom_least _ room_1 (by decide +kernel) (by decide +kernel) (by decide +kernel) (by decide +kernel) (by decide +kernel) (by decide +kernel)
theorem allAtoms_all (ts : List Jvm.Cond) (a : Array Jvm.Value) (st : Jvm.State) : (allAtoms ts).before a st = ts.all (fun c => c.before a st) := by
  induction ts with
  | nil => rfl
  | cons c t ih =>
    show (Jvm.Cond.and c (allAtoms t)).before a st = _
    rw [Jvm.Cond.before_and, ih, List.all_cons]
def words1 : List Jvm.Cond := Jvm.Cond.code x code maxLocals ret :: tables_1
/-- a 'code' word, met by the world's own term for the bytes: nothing is compared byte by byte -/
theorem code_word {y : MethodName} {bytes : ByteArray} {mx : Nat} {rt : Option FieldType} {a : Array Value} {s : State} {m : MethodId} {meth : Method} {c : Code} (h1 : s.methodNamed? y = some m) (h2 : s.vm.method? m = some meth) (h3 : meth.code = some c) (h4 : c.code = bytes)
    (h5 : (c.maxLocals == mx && c.exceptionTable.isEmpty && decide (c.maxStack ≤ mostOperands) && decide (meth.sig.returnType = rt) && !meth.locks && decide (parseMethodDescriptor y.desc = some meth.sig)) = true) : (Jvm.Cond.code y bytes mx rt).before a s = true := by
  simp only [Bool.and_eq_true, beq_iff_eq, Bool.not_eq_true', decide_eq_true_eq] at h5
  obtain ⟨⟨⟨⟨⟨g1, g2⟩, g3⟩, g4⟩, g5⟩, g6⟩ := h5
  simp [Cond.before, Cond.holds, Cond.value, h1, h2, h3, h4, g1, g2, g3, g4, g5, g6]
def isCode : Jvm.Cond → Bool
  | .code _ _ _ _ => true
  | _ => false
theorem all_split {L : List Jvm.Cond} {P : Jvm.Cond → Bool} (h1 : L.all (fun c => isCode c || P c) = true) (h2 : ∀ c ∈ L.filter isCode, P c = true) : L.all P = true := by
  refine List.all_eq_true.mpr fun c hc => ?_
  have h := List.all_eq_true.mp h1 c hc
  rcases Bool.eq_false_or_eq_true (isCode c) with hi | hi
  · exact h2 c (List.mem_filter.mpr ⟨hc, hi⟩)
  · simpa [hi] using h
set_option maxRecDepth 65536 in
theorem w_c0 : (Jvm.Cond.code x code maxLocals ret).before args0 about1 = true := code_word (m := ⟨1, 1⟩) (meth := k1m1) (c := k1c1) (by decide +kernel) rfl rfl rfl (by decide +kernel)
set_option maxRecDepth 65536 in
theorem w_c1 : (Jvm.Cond.code ({ cls := "java/lang/String", name := "valueOf", desc := "(C)Ljava/lang/String;" } : Jvm.MethodName) jdk_42_method_139_code (1 : Nat) (Option.some (Jvm.ClassFile.FieldType.object "java/lang/String"))).before args0 about1 = true := code_word (m := ⟨7, 4⟩) (meth := k7m4) (c := k7c4) (by decide +kernel) rfl rfl rfl (by decide +kernel)
set_option maxRecDepth 65536 in
theorem w_c2 : (Jvm.Cond.code ({ cls := "java/lang/StringLatin1", name := "canEncode", desc := "(C)Z" } : Jvm.MethodName) jdk_43_method_3_code (1 : Nat) (Option.some Jvm.ClassFile.FieldType.boolean)).before args0 about1 = true := code_word (m := ⟨8, 2⟩) (meth := k8m2) (c := k8c2) (by decide +kernel) rfl rfl rfl (by decide +kernel)
set_option maxRecDepth 65536 in
theorem w_c3 : (Jvm.Cond.code ({ cls := "java/lang/StringLatin1", name := "toBytes", desc := "(C)[B" } : Jvm.MethodName) jdk_43_method_46_code (1 : Nat) (Option.some (Jvm.ClassFile.FieldType.array Jvm.ClassFile.FieldType.byte))).before args0 about1 = true := code_word (m := ⟨8, 3⟩) (meth := k8m3) (c := k8c3) (by decide +kernel) rfl rfl rfl (by decide +kernel)
set_option maxRecDepth 65536 in
theorem w_c4 : (Jvm.Cond.code ({ cls := "java/lang/String", name := "<init>", desc := "([BB)V" } : Jvm.MethodName) jdk_42_method_151_code (3 : Nat) (Option.none : Option Jvm.ClassFile.FieldType)).before args0 about1 = true := code_word (m := ⟨7, 7⟩) (meth := k7m7) (c := k7c7) (by decide +kernel) rfl rfl rfl (by decide +kernel)
set_option maxRecDepth 65536 in
theorem w_c5 : (Jvm.Cond.code ({ cls := "java/lang/Object", name := "<init>", desc := "()V" } : Jvm.MethodName) object_method_1_code (1 : Nat) (Option.none : Option Jvm.ClassFile.FieldType)).before args0 about1 = true := code_word (m := ⟨0, 0⟩) (meth := k0m0) (c := k0c0) (by decide +kernel) rfl rfl rfl (by decide +kernel)
set_option maxRecDepth 65536 in
theorem w_c6 : (Jvm.Cond.code ({ cls := "com/example/kusuribako/kusuribako/exchange/Answers", name := "jsonObject", desc := "([Ljava/lang/String;)Ljava/lang/String;" } : Jvm.MethodName) prog_27_method_4_code (3 : Nat) (Option.some (Jvm.ClassFile.FieldType.object "java/lang/String"))).before args0 about1 = true := code_word (m := ⟨9, 1⟩) (meth := k9m1) (c := k9c1) (by decide +kernel) rfl rfl rfl (by decide +kernel)
set_option maxRecDepth 65536 in
theorem w_c7 : (Jvm.Cond.code ({ cls := "java/lang/StringBuilder", name := "<init>", desc := "(Ljava/lang/String;)V" } : Jvm.MethodName) jdk_67_method_3_code (2 : Nat) (Option.none : Option Jvm.ClassFile.FieldType)).before args0 about1 = true := code_word (m := ⟨12, 1⟩) (meth := k12m1) (c := k12c1) (by decide +kernel) rfl rfl rfl (by decide +kernel)
set_option maxRecDepth 65536 in
theorem w_c8 : (Jvm.Cond.code ({ cls := "java/lang/AbstractStringBuilder", name := "<init>", desc := "(Ljava/lang/String;)V" } : Jvm.MethodName) jdk_68_method_3_code (5 : Nat) (Option.none : Option Jvm.ClassFile.FieldType)).before args0 about1 = true := code_word (m := ⟨11, 1⟩) (meth := k11m1) (c := k11c1) (by decide +kernel) rfl rfl rfl (by decide +kernel)
set_option maxRecDepth 65536 in
theorem w_c9 : (Jvm.Cond.code ({ cls := "java/lang/String", name := "length", desc := "()I" } : Jvm.MethodName) jdk_42_method_54_code (1 : Nat) (Option.some Jvm.ClassFile.FieldType.int)).before args0 about1 = true := code_word (m := ⟨7, 2⟩) (meth := k7m2) (c := k7c2) (by decide +kernel) rfl rfl rfl (by decide +kernel)
set_option maxRecDepth 65536 in
theorem w_c10 : (Jvm.Cond.code ({ cls := "java/lang/String", name := "coder", desc := "()B" } : Jvm.MethodName) jdk_42_method_152_code (1 : Nat) (Option.some Jvm.ClassFile.FieldType.byte)).before args0 about1 = true := code_word (m := ⟨7, 8⟩) (meth := k7m8) (c := k7c8) (by decide +kernel) rfl rfl rfl (by decide +kernel)
set_option maxRecDepth 65536 in
theorem w_c11 : (Jvm.Cond.code ({ cls := "java/lang/StringBuilder", name := "append", desc := "(Ljava/lang/String;)Ljava/lang/AbstractStringBuilder;" } : Jvm.MethodName) jdk_67_method_80_code (2 : Nat) (Option.some (Jvm.ClassFile.FieldType.object "java/lang/AbstractStringBuilder"))).before args0 about1 = true := code_word (m := ⟨12, 5⟩) (meth := k12m5) (c := k12c5) (by decide +kernel) rfl rfl rfl (by decide +kernel)
set_option maxRecDepth 65536 in
theorem w_c12 : (Jvm.Cond.code ({ cls := "java/lang/StringBuilder", name := "append", desc := "(Ljava/lang/String;)Ljava/lang/StringBuilder;" } : Jvm.MethodName) jdk_67_method_7_code (2 : Nat) (Option.some (Jvm.ClassFile.FieldType.object "java/lang/StringBuilder"))).before args0 about1 = true := code_word (m := ⟨12, 2⟩) (meth := k12m2) (c := k12c2) (by decide +kernel) rfl rfl rfl (by decide +kernel)
set_option maxRecDepth 65536 in
theorem w_c13 : (Jvm.Cond.code ({ cls := "java/lang/AbstractStringBuilder", name := "append", desc := "(Ljava/lang/String;)Ljava/lang/AbstractStringBuilder;" } : Jvm.MethodName) jdk_68_method_22_code (3 : Nat) (Option.some (Jvm.ClassFile.FieldType.object "java/lang/AbstractStringBuilder"))).before args0 about1 = true := code_word (m := ⟨11, 4⟩) (meth := k11m4) (c := k11c4) (by decide +kernel) rfl rfl rfl (by decide +kernel)
set_option maxRecDepth 65536 in
theorem w_c14 : (Jvm.Cond.code ({ cls := "java/lang/AbstractStringBuilder", name := "ensureCapacityInternal", desc := "(I)V" } : Jvm.MethodName) jdk_68_method_9_code (3 : Nat) (Option.none : Option Jvm.ClassFile.FieldType)).before args0 about1 = true := code_word (m := ⟨11, 3⟩) (meth := k11m3) (c := k11c3) (by decide +kernel) rfl rfl rfl (by decide +kernel)
set_option maxRecDepth 65536 in
theorem w_c15 : (Jvm.Cond.code ({ cls := "java/lang/AbstractStringBuilder", name := "putStringAt", desc := "(ILjava/lang/String;)V" } : Jvm.MethodName) jdk_68_method_73_code (3 : Nat) (Option.none : Option Jvm.ClassFile.FieldType)).before args0 about1 = true := code_word (m := ⟨11, 9⟩) (meth := k11m9) (c := k11c9) (by decide +kernel) rfl rfl rfl (by decide +kernel)
set_option maxRecDepth 65536 in
theorem w_c16 : (Jvm.Cond.code ({ cls := "java/lang/AbstractStringBuilder", name := "inflateIfNeededFor", desc := "(Ljava/lang/String;)V" } : Jvm.MethodName) jdk_68_method_71_code (2 : Nat) (Option.none : Option Jvm.ClassFile.FieldType)).before args0 about1 = true := code_word (m := ⟨11, 8⟩) (meth := k11m8) (c := k11c8) (by decide +kernel) rfl rfl rfl (by decide +kernel)
set_option maxRecDepth 65536 in
theorem w_c17 : (Jvm.Cond.code ({ cls := "java/lang/String", name := "getBytes", desc := "([BIB)V" } : Jvm.MethodName) jdk_42_method_147_code (4 : Nat) (Option.none : Option Jvm.ClassFile.FieldType)).before args0 about1 = true := code_word (m := ⟨7, 5⟩) (meth := k7m5) (c := k7c5) (by decide +kernel) rfl rfl rfl (by decide +kernel)
set_option maxRecDepth 65536 in
theorem w_c18 : (Jvm.Cond.code ({ cls := "java/lang/StringBuilder", name := "append", desc := "(C)Ljava/lang/StringBuilder;" } : Jvm.MethodName) jdk_67_method_14_code (2 : Nat) (Option.some (Jvm.ClassFile.FieldType.object "java/lang/StringBuilder"))).before args0 about1 = true := code_word (m := ⟨12, 3⟩) (meth := k12m3) (c := k12c3) (by decide +kernel) rfl rfl rfl (by decide +kernel)
set_option maxRecDepth 65536 in
theorem w_c19 : (Jvm.Cond.code ({ cls := "java/lang/AbstractStringBuilder", name := "append", desc := "(C)Ljava/lang/AbstractStringBuilder;" } : Jvm.MethodName) jdk_68_method_31_code (2 : Nat) (Option.some (Jvm.ClassFile.FieldType.object "java/lang/AbstractStringBuilder"))).before args0 about1 = true := code_word (m := ⟨11, 5⟩) (meth := k11m5) (c := k11c5) (by decide +kernel) rfl rfl rfl (by decide +kernel)
set_option maxRecDepth 65536 in
theorem w_c20 : (Jvm.Cond.code ({ cls := "java/lang/AbstractStringBuilder", name := "isLatin1", desc := "()Z" } : Jvm.MethodName) jdk_68_method_68_code (1 : Nat) (Option.some Jvm.ClassFile.FieldType.boolean)).before args0 about1 = true := code_word (m := ⟨11, 7⟩) (meth := k11m7) (c := k11c7) (by decide +kernel) rfl rfl rfl (by decide +kernel)
set_option maxRecDepth 65536 in
theorem w_c21 : (Jvm.Cond.code ({ cls := "java/lang/StringBuilder", name := "toString", desc := "()Ljava/lang/String;" } : Jvm.MethodName) jdk_67_method_42_code (1 : Nat) (Option.some (Jvm.ClassFile.FieldType.object "java/lang/String"))).before args0 about1 = true := code_word (m := ⟨12, 4⟩) (meth := k12m4) (c := k12c4) (by decide +kernel) rfl rfl rfl (by decide +kernel)
set_option maxRecDepth 65536 in
theorem w_c22 : (Jvm.Cond.code ({ cls := "java/lang/String", name := "<init>", desc := "(Ljava/lang/StringBuilder;)V" } : Jvm.MethodName) jdk_42_method_53_code (2 : Nat) (Option.none : Option Jvm.ClassFile.FieldType)).before args0 about1 = true := code_word (m := ⟨7, 1⟩) (meth := k7m1) (c := k7c1) (by decide +kernel) rfl rfl rfl (by decide +kernel)
set_option maxRecDepth 65536 in
theorem w_c23 : (Jvm.Cond.code ({ cls := "java/lang/String", name := "<init>", desc := "(Ljava/lang/AbstractStringBuilder;Ljava/lang/Void;)V" } : Jvm.MethodName) jdk_42_method_150_code (5 : Nat) (Option.none : Option Jvm.ClassFile.FieldType)).before args0 about1 = true := code_word (m := ⟨7, 6⟩) (meth := k7m6) (c := k7c6) (by decide +kernel) rfl rfl rfl (by decide +kernel)
set_option maxRecDepth 65536 in
theorem w_c24 : (Jvm.Cond.code ({ cls := "java/lang/AbstractStringBuilder", name := "getValue", desc := "()[B" } : Jvm.MethodName) jdk_68_method_64_code (1 : Nat) (Option.some (Jvm.ClassFile.FieldType.array Jvm.ClassFile.FieldType.byte))).before args0 about1 = true := code_word (m := ⟨11, 6⟩) (meth := k11m6) (c := k11c6) (by decide +kernel) rfl rfl rfl (by decide +kernel)
set_option maxRecDepth 65536 in
theorem w_c25 : (Jvm.Cond.code ({ cls := "java/lang/StringBuilder", name := "length", desc := "()I" } : Jvm.MethodName) jdk_67_method_93_code (1 : Nat) (Option.some Jvm.ClassFile.FieldType.int)).before args0 about1 = true := code_word (m := ⟨12, 6⟩) (meth := k12m6) (c := k12c6) (by decide +kernel) rfl rfl rfl (by decide +kernel)
set_option maxRecDepth 65536 in
theorem w_c26 : (Jvm.Cond.code ({ cls := "java/lang/AbstractStringBuilder", name := "length", desc := "()I" } : Jvm.MethodName) jdk_68_method_6_code (1 : Nat) (Option.some Jvm.ClassFile.FieldType.int)).before args0 about1 = true := code_word (m := ⟨11, 2⟩) (meth := k11m2) (c := k11c2) (by decide +kernel) rfl rfl rfl (by decide +kernel)
set_option maxRecDepth 65536 in
theorem w_c27 : (Jvm.Cond.code ({ cls := "java/util/Arrays", name := "copyOfRange", desc := "([BII)[B" } : Jvm.MethodName) jdk_65_method_132_code (3 : Nat) (Option.some (Jvm.ClassFile.FieldType.array Jvm.ClassFile.FieldType.byte))).before args0 about1 = true := code_word (m := ⟨14, 2⟩) (meth := k14m2) (c := k14c2) (by decide +kernel) rfl rfl rfl (by decide +kernel)
set_option maxRecDepth 65536 in
theorem w_c28 : (Jvm.Cond.code ({ cls := "java/util/Arrays", name := "copyOfRangeByte", desc := "([BII)[B" } : Jvm.MethodName) jdk_65_method_133_code (5 : Nat) (Option.some (Jvm.ClassFile.FieldType.array Jvm.ClassFile.FieldType.byte))).before args0 about1 = true := code_word (m := ⟨14, 3⟩) (meth := k14m3) (c := k14c3) (by decide +kernel) rfl rfl rfl (by decide +kernel)
set_option maxRecDepth 65536 in
theorem w_c29 : (Jvm.Cond.code ({ cls := "java/util/Arrays", name := "checkLength", desc := "(II)V" } : Jvm.MethodName) jdk_65_method_131_code (2 : Nat) (Option.none : Option Jvm.ClassFile.FieldType)).before args0 about1 = true := code_word (m := ⟨14, 1⟩) (meth := k14m1) (c := k14c1) (by decide +kernel) rfl rfl rfl (by decide +kernel)
set_option maxRecDepth 65536 in
theorem w_c30 : (Jvm.Cond.code ({ cls := "java/lang/Math", name := "min", desc := "(II)I" } : Jvm.MethodName) jdk_29_method_69_code (2 : Nat) (Option.some Jvm.ClassFile.FieldType.int)).before args0 about1 = true := code_word (m := ⟨15, 1⟩) (meth := k15m1) (c := k15c1) (by decide +kernel) rfl rfl rfl (by decide +kernel)
set_option maxRecDepth 65536 in
theorem w_c31 : (Jvm.Cond.code ({ cls := "com/example/kusuribako/kusuribako/exchange/AnswersJsonObjectPinLaw", name := "put", desc := "([CIC)I" } : Jvm.MethodName) method_3_code (3 : Nat) (Option.some Jvm.ClassFile.FieldType.int)).before args0 about1 = true := code_word (m := ⟨1, 2⟩) (meth := k1m2) (c := k1c2) (by decide +kernel) rfl rfl rfl (by decide +kernel)
set_option maxRecDepth 65536 in
theorem w_c32 : (Jvm.Cond.code ({ cls := "com/example/kusuribako/kusuribako/exchange/AnswersJsonObjectPinLaw", name := "at", desc := "(Ljava/lang/String;[CII)Z" } : Jvm.MethodName) method_5_code (4 : Nat) (Option.some Jvm.ClassFile.FieldType.boolean)).before args0 about1 = true := code_word (m := ⟨1, 4⟩) (meth := k1m4) (c := k1c4) (by decide +kernel) rfl rfl rfl (by decide +kernel)
set_option maxRecDepth 65536 in
theorem w_c33 : (Jvm.Cond.code ({ cls := "java/lang/String", name := "charAt", desc := "(I)C" } : Jvm.MethodName) jdk_42_method_56_code (2 : Nat) (Option.some Jvm.ClassFile.FieldType.char)).before args0 about1 = true := code_word (m := ⟨7, 3⟩) (meth := k7m3) (c := k7c3) (by decide +kernel) rfl rfl rfl (by decide +kernel)
set_option maxRecDepth 65536 in
theorem w_c34 : (Jvm.Cond.code ({ cls := "java/lang/String", name := "isLatin1", desc := "()Z" } : Jvm.MethodName) jdk_42_method_154_code (1 : Nat) (Option.some Jvm.ClassFile.FieldType.boolean)).before args0 about1 = true := code_word (m := ⟨7, 9⟩) (meth := k7m9) (c := k7c9) (by decide +kernel) rfl rfl rfl (by decide +kernel)
set_option maxRecDepth 65536 in
theorem w_c35 : (Jvm.Cond.code ({ cls := "java/lang/StringLatin1", name := "charAt", desc := "([BI)C" } : Jvm.MethodName) jdk_43_method_2_code (2 : Nat) (Option.some Jvm.ClassFile.FieldType.char)).before args0 about1 = true := code_word (m := ⟨8, 1⟩) (meth := k8m1) (c := k8c1) (by decide +kernel) rfl rfl rfl (by decide +kernel)
set_option maxRecDepth 65536 in
theorem w_c36 : (Jvm.Cond.code ({ cls := "java/lang/String", name := "checkIndex", desc := "(II)V" } : Jvm.MethodName) jdk_42_method_155_code (2 : Nat) (Option.none : Option Jvm.ClassFile.FieldType)).before args0 about1 = true := code_word (m := ⟨7, 10⟩) (meth := k7m10) (c := k7c10) (by decide +kernel) rfl rfl rfl (by decide +kernel)
set_option maxRecDepth 65536 in
theorem w_c37 : (Jvm.Cond.code ({ cls := "jdk/internal/util/Preconditions", name := "checkIndex", desc := "(IILjava/util/function/BiFunction;)I" } : Jvm.MethodName) jdk_41_method_11_code (3 : Nat) (Option.some Jvm.ClassFile.FieldType.int)).before args0 about1 = true := code_word (m := ⟨16, 1⟩) (meth := k16m1) (c := k16c1) (by decide +kernel) rfl rfl rfl (by decide +kernel)
set_option maxRecDepth 65536 in
theorem w_c38 : (Jvm.Cond.code ({ cls := "com/example/kusuribako/kusuribako/exchange/AnswersJsonObjectPinLaw", name := "pair", desc := "([CICZCZ)I" } : Jvm.MethodName) method_4_code (7 : Nat) (Option.some Jvm.ClassFile.FieldType.int)).before args0 about1 = true := code_word (m := ⟨1, 3⟩) (meth := k1m3) (c := k1c3) (by decide +kernel) rfl rfl rfl (by decide +kernel)
def codes1 : List Jvm.Cond := [Jvm.Cond.code x code maxLocals ret, Jvm.Cond.code ({ cls := "java/lang/String", name := "valueOf", desc := "(C)Ljava/lang/String;" } : Jvm.MethodName) jdk_42_method_139_code (1 : Nat) (Option.some (Jvm.ClassFile.FieldType.object "java/lang/String")), Jvm.Cond.code ({ cls := "java/lang/StringLatin1", name := "canEncode", desc := "(C)Z" } : Jvm.MethodName) jdk_43_method_3_code (1 : Nat) (Option.some Jvm.ClassFile.FieldType.boolean), Jvm.Cond.code ({ cls := "java/lang/StringLatin1", name := "toBytes", desc := "(C)[B" } : Jvm.MethodName) jdk_43_method_46_code (1 : Nat) (Option.some (Jvm.ClassFile.FieldType.array Jvm.ClassFile.FieldType.byte)), Jvm.Cond.code ({ cls := "java/lang/String", name := "<init>", desc := "([BB)V" } : Jvm.MethodName) jdk_42_method_151_code (3 : Nat) (Option.none : Option Jvm.ClassFile.FieldType), Jvm.Cond.code ({ cls := "java/lang/Object", name := "<init>", desc := "()V" } : Jvm.MethodName) object_method_1_code (1 : Nat) (Option.none : Option Jvm.ClassFile.FieldType), Jvm.Cond.code ({ cls := "com/example/kusuribako/kusuribako/exchange/Answers", name := "jsonObject", desc := "([Ljava/lang/String;)Ljava/lang/String;" } : Jvm.MethodName) prog_27_method_4_code (3 : Nat) (Option.some (Jvm.ClassFile.FieldType.object "java/lang/String")), Jvm.Cond.code ({ cls := "java/lang/StringBuilder", name := "<init>", desc := "(Ljava/lang/String;)V" } : Jvm.MethodName) jdk_67_method_3_code (2 : Nat) (Option.none : Option Jvm.ClassFile.FieldType), Jvm.Cond.code ({ cls := "java/lang/AbstractStringBuilder", name := "<init>", desc := "(Ljava/lang/String;)V" } : Jvm.MethodName) jdk_68_method_3_code (5 : Nat) (Option.none : Option Jvm.ClassFile.FieldType), Jvm.Cond.code ({ cls := "java/lang/String", name := "length", desc := "()I" } : Jvm.MethodName) jdk_42_method_54_code (1 : Nat) (Option.some Jvm.ClassFile.FieldType.int), Jvm.Cond.code ({ cls := "java/lang/String", name := "coder", desc := "()B" } : Jvm.MethodName) jdk_42_method_152_code (1 : Nat) (Option.some Jvm.ClassFile.FieldType.byte), Jvm.Cond.code ({ cls := "java/lang/StringBuilder", name := "append", desc := "(Ljava/lang/String;)Ljava/lang/AbstractStringBuilder;" } : Jvm.MethodName) jdk_67_method_80_code (2 : Nat) (Option.some (Jvm.ClassFile.FieldType.object "java/lang/AbstractStringBuilder")), Jvm.Cond.code ({ cls := "java/lang/StringBuilder", name := "append", desc := "(Ljava/lang/String;)Ljava/lang/StringBuilder;" } : Jvm.MethodName) jdk_67_method_7_code (2 : Nat) (Option.some (Jvm.ClassFile.FieldType.object "java/lang/StringBuilder")), Jvm.Cond.code ({ cls := "java/lang/AbstractStringBuilder", name := "append", desc := "(Ljava/lang/String;)Ljava/lang/AbstractStringBuilder;" } : Jvm.MethodName) jdk_68_method_22_code (3 : Nat) (Option.some (Jvm.ClassFile.FieldType.object "java/lang/AbstractStringBuilder")), Jvm.Cond.code ({ cls := "java/lang/AbstractStringBuilder", name := "ensureCapacityInternal", desc := "(I)V" } : Jvm.MethodName) jdk_68_method_9_code (3 : Nat) (Option.none : Option Jvm.ClassFile.FieldType), Jvm.Cond.code ({ cls := "java/lang/AbstractStringBuilder", name := "putStringAt", desc := "(ILjava/lang/String;)V" } : Jvm.MethodName) jdk_68_method_73_code (3 : Nat) (Option.none : Option Jvm.ClassFile.FieldType), Jvm.Cond.code ({ cls := "java/lang/AbstractStringBuilder", name := "inflateIfNeededFor", desc := "(Ljava/lang/String;)V" } : Jvm.MethodName) jdk_68_method_71_code (2 : Nat) (Option.none : Option Jvm.ClassFile.FieldType), Jvm.Cond.code ({ cls := "java/lang/String", name := "getBytes", desc := "([BIB)V" } : Jvm.MethodName) jdk_42_method_147_code (4 : Nat) (Option.none : Option Jvm.ClassFile.FieldType), Jvm.Cond.code ({ cls := "java/lang/StringBuilder", name := "append", desc := "(C)Ljava/lang/StringBuilder;" } : Jvm.MethodName) jdk_67_method_14_code (2 : Nat) (Option.some (Jvm.ClassFile.FieldType.object "java/lang/StringBuilder")), Jvm.Cond.code ({ cls := "java/lang/AbstractStringBuilder", name := "append", desc := "(C)Ljava/lang/AbstractStringBuilder;" } : Jvm.MethodName) jdk_68_method_31_code (2 : Nat) (Option.some (Jvm.ClassFile.FieldType.object "java/lang/AbstractStringBuilder")), Jvm.Cond.code ({ cls := "java/lang/AbstractStringBuilder", name := "isLatin1", desc := "()Z" } : Jvm.MethodName) jdk_68_method_68_code (1 : Nat) (Option.some Jvm.ClassFile.FieldType.boolean), Jvm.Cond.code ({ cls := "java/lang/StringBuilder", name := "toString", desc := "()Ljava/lang/String;" } : Jvm.MethodName) jdk_67_method_42_code (1 : Nat) (Option.some (Jvm.ClassFile.FieldType.object "java/lang/String")), Jvm.Cond.code ({ cls := "java/lang/String", name := "<init>", desc := "(Ljava/lang/StringBuilder;)V" } : Jvm.MethodName) jdk_42_method_53_code (2 : Nat) (Option.none : Option Jvm.ClassFile.FieldType), Jvm.Cond.code ({ cls := "java/lang/String", name := "<init>", desc := "(Ljava/lang/AbstractStringBuilder;Ljava/lang/Void;)V" } : Jvm.MethodName) jdk_42_method_150_code (5 : Nat) (Option.none : Option Jvm.ClassFile.FieldType), Jvm.Cond.code ({ cls := "java/lang/AbstractStringBuilder", name := "getValue", desc := "()[B" } : Jvm.MethodName) jdk_68_method_64_code (1 : Nat) (Option.some (Jvm.ClassFile.FieldType.array Jvm.ClassFile.FieldType.byte)), Jvm.Cond.code ({ cls := "java/lang/StringBuilder", name := "length", desc := "()I" } : Jvm.MethodName) jdk_67_method_93_code (1 : Nat) (Option.some Jvm.ClassFile.FieldType.int), Jvm.Cond.code ({ cls := "java/lang/AbstractStringBuilder", name := "length", desc := "()I" } : Jvm.MethodName) jdk_68_method_6_code (1 : Nat) (Option.some Jvm.ClassFile.FieldType.int), Jvm.Cond.code ({ cls := "java/util/Arrays", name := "copyOfRange", desc := "([BII)[B" } : Jvm.MethodName) jdk_65_method_132_code (3 : Nat) (Option.some (Jvm.ClassFile.FieldType.array Jvm.ClassFile.FieldType.byte)), Jvm.Cond.code ({ cls := "java/util/Arrays", name := "copyOfRangeByte", desc := "([BII)[B" } : Jvm.MethodName) jdk_65_method_133_code (5 : Nat) (Option.some (Jvm.ClassFile.FieldType.array Jvm.ClassFile.FieldType.byte)), Jvm.Cond.code ({ cls := "java/util/Arrays", name := "checkLength", desc := "(II)V" } : Jvm.MethodName) jdk_65_method_131_code (2 : Nat) (Option.none : Option Jvm.ClassFile.FieldType), Jvm.Cond.code ({ cls := "java/lang/Math", name := "min", desc := "(II)I" } : Jvm.MethodName) jdk_29_method_69_code (2 : Nat) (Option.some Jvm.ClassFile.FieldType.int), Jvm.Cond.code ({ cls := "com/example/kusuribako/kusuribako/exchange/AnswersJsonObjectPinLaw", name := "put", desc := "([CIC)I" } : Jvm.MethodName) method_3_code (3 : Nat) (Option.some Jvm.ClassFile.FieldType.int), Jvm.Cond.code ({ cls := "com/example/kusuribako/kusuribako/exchange/AnswersJsonObjectPinLaw", name := "at", desc := "(Ljava/lang/String;[CII)Z" } : Jvm.MethodName) method_5_code (4 : Nat) (Option.some Jvm.ClassFile.FieldType.boolean), Jvm.Cond.code ({ cls := "java/lang/String", name := "charAt", desc := "(I)C" } : Jvm.MethodName) jdk_42_method_56_code (2 : Nat) (Option.some Jvm.ClassFile.FieldType.char), Jvm.Cond.code ({ cls := "java/lang/String", name := "isLatin1", desc := "()Z" } : Jvm.MethodName) jdk_42_method_154_code (1 : Nat) (Option.some Jvm.ClassFile.FieldType.boolean), Jvm.Cond.code ({ cls := "java/lang/StringLatin1", name := "charAt", desc := "([BI)C" } : Jvm.MethodName) jdk_43_method_2_code (2 : Nat) (Option.some Jvm.ClassFile.FieldType.char), Jvm.Cond.code ({ cls := "java/lang/String", name := "checkIndex", desc := "(II)V" } : Jvm.MethodName) jdk_42_method_155_code (2 : Nat) (Option.none : Option Jvm.ClassFile.FieldType), Jvm.Cond.code ({ cls := "jdk/internal/util/Preconditions", name := "checkIndex", desc := "(IILjava/util/function/BiFunction;)I" } : Jvm.MethodName) jdk_41_method_11_code (3 : Nat) (Option.some Jvm.ClassFile.FieldType.int), Jvm.Cond.code ({ cls := "com/example/kusuribako/kusuribako/exchange/AnswersJsonObjectPinLaw", name := "pair", desc := "([CICZCZ)I" } : Jvm.MethodName) method_4_code (7 : Nat) (Option.some Jvm.ClassFile.FieldType.int)]
set_option maxRecDepth 65536 in
theorem codes_eq : words1.filter isCode = codes1 := rfl
theorem w_codes : ∀ c ∈ words1.filter isCode, c.before args0 about1 = true := by
  rw [codes_eq]
  intro c hc
  simp only [codes1, List.mem_cons, List.not_mem_nil, or_false] at hc
  rcases hc with rfl | rfl | rfl | rfl | rfl | rfl | rfl | rfl | rfl | rfl | rfl | rfl | rfl | rfl | rfl | rfl | rfl | rfl | rfl | rfl | rfl | rfl | rfl | rfl | rfl | rfl | rfl | rfl | rfl | rfl | rfl | rfl | rfl | rfl | rfl | rfl | rfl | rfl | rfl
  · exact w_c0
  · exact w_c1
  · exact w_c2
  · exact w_c3
  · exact w_c4
  · exact w_c5
  · exact w_c6
  · exact w_c7
  · exact w_c8
  · exact w_c9
  · exact w_c10
  · exact w_c11
  · exact w_c12
  · exact w_c13
  · exact w_c14
  · exact w_c15
  · exact w_c16
  · exact w_c17
  · exact w_c18
  · exact w_c19
  · exact w_c20
  · exact w_c21
  · exact w_c22
  · exact w_c23
  · exact w_c24
  · exact w_c25
  · exact w_c26
  · exact w_c27
  · exact w_c28
  · exact w_c29
  · exact w_c30
  · exact w_c31
  · exact w_c32
  · exact w_c33
  · exact w_c34
  · exact w_c35
  · exact w_c36
  · exact w_c37
  · exact w_c38
set_option maxRecDepth 65536 in
theorem w_t1 : (words1.take 24).all (fun c => isCode c || c.before args0 about1) = true := by decide +kernel
set_option maxRecDepth 65536 in
theorem w_t2 : ((words1.drop 24).take 24).all (fun c => isCode c || c.before args0 about1) = true := by decide +kernel
set_option maxRecDepth 65536 in
theorem w_t3 : (((words1.drop 24).drop 24).take 24).all (fun c => isCode c || c.before args0 about1) = true := by decide +kernel
set_option maxRecDepth 65536 in
theorem w_t4 : ((((words1.drop 24).drop 24).drop 24).take 24).all (fun c => isCode c || c.before args0 about1) = true := by decide +kernel
set_option maxRecDepth 65536 in
theorem w_t5 : (((((words1.drop 24).drop 24).drop 24).drop 24).take 24).all (fun c => isCode c || c.before args0 about1) = true := by decide +kernel
set_option maxRecDepth 65536 in
theorem w_t6 : ((((((words1.drop 24).drop 24).drop 24).drop 24).drop 24).take 24).all (fun c => isCode c || c.before args0 about1) = true := by decide +kernel
set_option maxRecDepth 65536 in
theorem w_t7 : (((((((words1.drop 24).drop 24).drop 24).drop 24).drop 24).drop 24).take 24).all (fun c => isCode c || c.before args0 about1) = true := by decide +kernel
set_option maxRecDepth 65536 in
theorem w_t8 : ((((((((words1.drop 24).drop 24).drop 24).drop 24).drop 24).drop 24).drop 24).take 24).all (fun c => isCode c || c.before args0 about1) = true := by decide +kernel
set_option maxRecDepth 65536 in
theorem w_t9 : ((((((((words1.drop 24).drop 24).drop 24).drop 24).drop 24).drop 24).drop 24).drop 24).all (fun c => isCode c || c.before args0 about1) = true := by decide +kernel
theorem w_tables : (allAtoms (Jvm.Cond.code x code maxLocals ret :: tables_1)).before args0 about1 = true := by
  rw [allAtoms_all]
  show words1.all (fun c => c.before args0 about1) = true
  refine all_split ?_ w_codes
  rw [← List.take_append_drop 24 words1, List.all_append, w_t1, ← List.take_append_drop 24 (words1.drop 24), List.all_append, w_t2, ← List.take_append_drop 24 ((words1.drop 24).drop 24), List.all_append, w_t3, ← List.take_append_drop 24 (((words1.drop 24).drop 24).drop 24), List.all_append, w_t4, ← List.take_append_drop 24 ((((words1.drop 24).drop 24).drop 24).drop 24), List.all_append, w_t5, ← List.take_append_drop 24 (((((words1.drop 24).drop 24).drop 24).drop 24).drop 24), List.all_append, w_t6, ← List.take_append_drop 24 ((((((words1.drop 24).drop 24).drop 24).drop 24).drop 24).drop 24), List.all_append, w_t7, ← List.take_append_drop 24 (((((((words1.drop 24).drop 24).drop 24).drop 24).drop 24).drop 24).drop 24), List.all_append, w_t8, w_t9]
  rfl
set_option maxRecDepth 65536 in
theorem w_rest : rest_1_c.before args0 about1 = true := by decide +kernel
set_option maxRecDepth 65536 in
theorem w_case : (Jvm.Cond.and given_1 narrow_1).before args0 about1 = true := by decide +kernel
set_option maxRecDepth 65536 in
theorem w_consts : constsHeld consts_1 about1 := Jvm.Lit.constsHeldB_iff.mp (by decide +kernel)
theorem w_applies : (headSpec (Jvm.Cond.code x code maxLocals ret :: tables_1) room_1).applies x e0.platform about1 = true :=
  (Spec.applies_iff w_frames).mpr ⟨w_running, w_runnable, w_alone, w_named, w_hears, w_ripe, w_room, w_tables⟩
theorem atStart : AtStart classFile x code maxLocals ret World_1 tables_1 room_1 Calls_1 rest_1 Pre_1 launch0 p0 e0 about1 theMethod args0 below0 :=
  ⟨lists_1, trivial, launch0.admits_env _ _ _, launch0.least_env, fairChoices_fair.cas, fairChoices_fair.clock, w_frames, w_args, w_heap, w_applies, ⟨w_consts, trivial⟩, w_rest, w_case⟩
end start1
theorem witness_1 : WitnessClaimed_1 := ⟨start1.p0, start1.e0, start1.about1, start1.theMethod, start1.args0, start1.below0, start1.atStart⟩
end Jvm.Pilot.@@N@@
