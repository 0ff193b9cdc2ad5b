import JvmDerived
import JvmDerived.Pilot.@@N@@Statement
import JvmDerived.Pilot.@@N@@Code
set_option linter.unusedVariables false
set_option linter.unusedSimpArgs false
namespace Jvm.Pilot.@@N@@
open Jvm Jvm.ClassFile Sem Op Lib Jvm.Free Jvm.Stand Jvm.LawKit Jvm.RoadKit Bundle Jvm.Pilot.@@N@@.Jvm.D
/-! ## own kit, part 0: words, small numbers -/
theorem wd {a0 : Array Value} {Z : State} (hw : ∀ d ∈ tables_1, d.before a0 Z = true) (k : Nat) {d : Jvm.Cond} (h : tables_1[k]? = some d) : d.before a0 Z = true := hw d (List.mem_of_getElem? h)
theorem own_hn {fs : List (String × String × String × Value)} {nm : List String} {j : Nat} {f : String × String × String × Value} (hj : fs[j]? = some f) (h : fs.map (fun z => z.2.1) = nm) (hN : nm.Nodup) : ∀ i f', fs[i]? = some f' → i ≠ j → f'.2.1 ≠ f.2.1 := fun i f' hi q e => by
  subst h
  have a1 : (fs.map (fun z => z.2.1))[i]? = some f'.2.1 := by rw [List.getElem?_map, hi]; rfl
  have a2 : (fs.map (fun z => z.2.1))[j]? = some f.2.1 := by rw [List.getElem?_map, hj]; rfl
  obtain ⟨l1, e1⟩ := List.getElem?_eq_some_iff.mp a1
  obtain ⟨l2, e2⟩ := List.getElem?_eq_some_iff.mp a2
  exact q ((List.getElem_inj hN).mp (e1.trans (e.trans e2.symm)))
theorem own_fld {args : Array Value} {s : State} {t b : Term} {C n d : String} {v : Value} {a : Addr} (ev : t.eval args s none [] s = some (.ref a)) (hb : b.eval args s none [] s = some v) (h : (Jvm.Cond.eq (Term.field t C n d) b).value args s none s [] = some true) : Fld s s.heap a C n d v := by
  have e := fld_at (C := C) (n := n) (dd := d) ev
  cases hf : s.fieldOf? a C n d with
  | none => rw [hf] at e; simp [Cond.value, e] at h
  | some w =>
    rw [hf] at e
    have : w = v := by
      cases w <;> cases v <;> simp [Cond.value, e, hb] at h ⊢ <;> exact h
    subst this
    exact Fld.start hf
theorem own_rem (x k : Int32) (hk : 0 < k.toInt) : 0 ≤ ((x &&& 2147483647) % k).toInt ∧ ((x &&& 2147483647) % k).toInt < k.toInt := by
  have h := (c_andS x 2147483647).2.2 (by decide)
  rw [Int32.toInt_mod]
  exact ⟨Int.tmod_nonneg _ h, Int.tmod_lt_of_pos _ hk⟩
theorem own_mask (x m : Int32) (hm : 0 ≤ m.toInt) : 0 ≤ (x &&& m).toInt ∧ (x &&& m).toInt ≤ m.toInt := by
  have h1 := (c_andS x m).2.2 hm
  refine ⟨h1, ?_⟩
  have q : (x &&& m).toBitVec.toNat ≤ m.toBitVec.toNat := by rw [Int32.toBitVec_and, BitVec.toNat_and]; exact Nat.and_le_right
  change 0 ≤ m.toBitVec.toInt at hm
  change 0 ≤ (x &&& m).toBitVec.toInt at h1
  show (x &&& m).toBitVec.toInt ≤ m.toBitVec.toInt
  rw [BitVec.toInt_eq_toNat_cond] at hm h1 ⊢
  rw [BitVec.toInt_eq_toNat_cond (x := m.toBitVec)]
  split at hm <;> split at h1 <;> split <;> omega
theorem own_nz {x : Int32} (h : x = 0 ∨ x = 1) : narrow .boolean (.int x) = .int x ∧ fits .boolean (.int x) = true := by rcases h with rfl | rfl <;> exact ⟨rfl, rfl⟩
theorem own_b01 {c : Prop} [Decidable c] {b : Int32} (h : b = if c then 0 else 1) : b = 0 ∨ b = 1 := by subst h; split <;> simp
theorem own_cat {v : Value} (h : v.isRef = true) : v.category = 1 := by cases v <;> first | rfl | cases h
theorem own_cI (x : Int32) : (Value.int x).category = 1 := rfl
theorem own_cJ (x : Int64) : (Value.long x).category = 2 := rfl
theorem own_cR (x : Addr) : (Value.ref x).category = 1 := rfl
theorem own_cN : Value.null.category = 1 := rfl
/-! ## own kit, wide form, part 1: objects of the law's own heap; some may only be read (tag 1: handed or new; tag 2: anywhere) -/
abbrev OFld := String × String × String × Value
abbrev OObj := Nat × ((String × List OFld) ⊕ (String × FieldType × List Value))
abbrev OHp := List (Addr × OObj)
abbrev OMode := Option (List (String × Nat) × Vm × Vm × Nat)
abbrev ob (C : String) (fs : List OFld) : OObj := (0, Sum.inl (C, fs))
abbrev ar (D : String) (ty : FieldType) (vs : List Value) : OObj := (0, Sum.inr (D, ty, vs))
abbrev ro (t : Nat) (o : OObj) : OObj := (t, o.2)
def OKo (Z : State) (a0 : Array Value) (h : Heap) (a : Addr) (C : String) (fs : List OFld) : Prop := Exa Z h a C ∧ ∀ f ∈ fs, Laid Z a0 C f.1 f.2.1 f.2.2.1 ∧ (∃ t, parseFieldDescriptor f.2.2.1 = some t) ∧ Fld Z h a f.1 f.2.1 f.2.2.1 f.2.2.2
def OKa (Z : State) (h : Heap) (a : Addr) (D : String) (ty : FieldType) (vs : List Value) : Prop := ∃ c : Cell, Arr Z h a c ty ∧ c.slots = vs.toArray ∧ vs.length < 2 ^ 31 ∧ (D = "" ∨ Z.vm.findClass D = some c.cls) ∧ ∀ v ∈ vs, fits ty v = true
def OK (Z : State) (a0 : Array Value) (h : Heap) (a : Addr) (o : OObj) : Prop := match o.2 with
  | .inl (C, fs) => OKo Z a0 h a C fs
  | .inr (D, ty, vs) => OKa Z h a D ty vs
def wsOf (F : OHp) : List Addr := (F.filter (fun x => x.2.1 == 0)).map (·.1)
def ksOf (F : OHp) : List Addr := (F.filter (fun x => x.2.1 == 0 || x.2.1 == 1)).map (·.1)
/-- what a callee gives back is writable, new or handed to it; or nothing else may be written -/
def own_tg (F F' G : OHp) : Prop := F'.all (fun x => x.2.1 == 0 || x.2.1 == 1) = true ∨ G.all (fun x => x.2.1 != 0) = true ∨ ∀ x ∈ F', x.2.1 = 0 ∨ x.2.1 = 1 ∨ x ∈ F
def SafeM (Z : State) (M : OMode) (h : Heap) (a : Addr) : Prop := match M with
  | none => True
  | some (EL, _, vm0, _) => Safe Z EL vm0 h a
def MInv (Z : State) (a0 : Array Value) (M : OMode) (hS h : Heap) : Prop := match M with
  | none => True
  | some (EL, vmS, vm0, k0) => EW Z a0 EL ∧ Z.Warmed39 vm0 ∧ CHr Z EL vmS hS vm0 h ∧ k0 ≤ h.size
def okE (Z : State) (a0 : Array Value) (M : OMode) (h0 hS : Heap) (F0 : OHp) (h : Heap) (x : Addr × OObj) : Prop :=
  OK Z a0 h x.1 x.2 ∧ (x.2.1 = 0 → h0.size ≤ x.1 ∧ (x.1 ∈ wsOf F0 ∨ hS.size ≤ x.1) ∧ SafeM Z M h x.1) ∧ (x.2.1 = 1 → x.1 ∈ ksOf F0 ∨ hS.size ≤ x.1)
def Hp (Z : State) (a0 : Array Value) (M : OMode) (h0 hS : Heap) (F0 : OHp) (h : Heap) (H : OHp) : Prop :=
  Ext h0 h ∧ Keep hS h (wsOf F0) ∧ MInv Z a0 M hS h ∧ (∀ (i : Nat) (x : Addr × OObj), H[i]? = some x → okE Z a0 M h0 hS F0 h x) ∧ ∀ (i j : Nat) (x y : Addr × OObj), H[i]? = some x → H[j]? = some y → x.1 = y.1 → (x.2.1 = 0 ∨ y.2.1 = 0) → i = j
section Own
variable {Z : State} {a0 : Array Value} {M : OMode} {h0 hS h h' : Heap} {F0 : OHp} {H : OHp} {a : Addr} {o : OObj} {C D O n d : String} {fs : List OFld} {ty : FieldType} {vs : List Value} {v : Value}
theorem OKa.exa (A : OKa Z h a D ty vs) (hD : D ≠ "") : Exa Z h a D := by
  obtain ⟨c, A, -, -, hf, -⟩ := A
  obtain ⟨-, k, hk, comp, hkind⟩ := A.2.1
  exact ⟨c, k, A.1, hf.resolve_left hD, hk, A.plain, fun q => by rw [hkind] at q; cases q⟩
theorem OK.lt (A : OK Z a0 h a o) : a < h.size := by
  obtain ⟨t, ⟨C, fs⟩ | ⟨D, ty, vs⟩⟩ := o
  · exact A.1.lt
  · obtain ⟨c, A, -⟩ := A; exact A.lt
theorem OK.ext (A : OK Z a0 h a o) (E : Ext h h') : OK Z a0 h' a o := by
  obtain ⟨t, ⟨C, fs⟩ | ⟨D, ty, vs⟩⟩ := o
  · exact ⟨A.1.ext E, fun f hf => ⟨(A.2 f hf).1, (A.2 f hf).2.1, (A.2 f hf).2.2.ext E⟩⟩
  · obtain ⟨c, A, r⟩ := A; exact ⟨c, A.ext E, r⟩
theorem OK.keep {us : List Addr} (A : OK Z a0 h a o) (K : Keep h h' us) (q : a ∉ us) : OK Z a0 h' a o := by
  obtain ⟨t, ⟨C, fs⟩ | ⟨D, ty, vs⟩⟩ := o
  · exact ⟨A.1.keep K, fun f hf => ⟨(A.2 f hf).1, (A.2 f hf).2.1, (A.2 f hf).2.2.keep K q⟩⟩
  · obtain ⟨c, A, r⟩ := A; exact ⟨c, ⟨K.2.1 a c A.1 q, A.2⟩, r⟩
theorem OKo.put {j : Nat} (A : OKo Z a0 h a C fs) {w : Value} (hj : fs[j]? = some (O, n, d, w)) (hn : ∀ i f, fs[i]? = some f → i ≠ j → f.2.1 ≠ n) (W : Wr h h' a (Jvm.RoadKit.slotOf Z O n d) v) : OKo Z a0 h' a C (fs.set j (O, n, d, v)) := by
  obtain ⟨E, F⟩ := A
  refine ⟨E.wr W, fun f hf => ?_⟩
  obtain ⟨i, hi⟩ := List.mem_iff_getElem?.mp hf
  obtain ⟨l1, ⟨t1, p1⟩, f1⟩ := F _ (List.mem_of_getElem? hj)
  rw [List.getElem?_set] at hi
  by_cases q : j = i
  · subst q
    have hlt : j < fs.length := (List.getElem?_eq_some_iff.mp hj).1
    simp only [if_true, hlt] at hi
    cases hi
    exact ⟨l1, ⟨t1, p1⟩, f1.same W⟩
  · rw [if_neg q] at hi
    obtain ⟨l2, ⟨t2, p2⟩, f2⟩ := F _ (List.mem_of_getElem? hi)
    exact ⟨l2, ⟨t2, p2⟩, f2.other W (Or.inr (slot_ne l2 l1 (hn i f hi (Ne.symm q)) p2 p1))⟩
theorem OKa.store {j : Nat} (A : OKa Z h a D ty vs) (W : Wr h h' a j v) (hv : fits ty v = true) : OKa Z h' a D ty (vs.set j v) := by
  obtain ⟨c, A, hs, hl, hf, hfit⟩ := A
  refine ⟨_, A.same W, ?_, by simpa using hl, hf, fun u hu => ?_⟩
  · simp [Cell.setSlot, hs]
  · rcases List.mem_or_eq_of_mem_set hu with q | q
    · exact hfit u q
    · exact q ▸ hv
theorem SafeM.new (q : h.size ≤ a) : SafeM Z M h a := by
  rcases M with _ | ⟨EL, vmS, vm0, k0⟩
  · trivial
  · exact Safe.new q
theorem SafeM.keep {us : List Addr} (I : MInv Z a0 M hS h) (K : Keep h h' us) (hs : ∀ x ∈ us, SafeM Z M h x) (S : SafeM Z M h a) : SafeM Z M h' a := by
  rcases M with _ | ⟨EL, vmS, vm0, k0⟩
  · trivial
  · exact Safe.keep K hs I.2.2.1.1 S
theorem MInv.keep {us : List Addr} (I : MInv Z a0 M hS h) (K : Keep h h' us) (hs : ∀ x ∈ us, SafeM Z M h x) : MInv Z a0 M hS h' := by
  rcases M with _ | ⟨EL, vmS, vm0, k0⟩
  · trivial
  · exact ⟨I.1, I.2.1, I.2.2.1.trans (CHr.keep K hs I.2.2.1.1), Nat.le_trans I.2.2.2 K.1⟩
theorem own_keepE (E : Ext h h') (us : List Addr) : Keep h h' us := (Keep.refl h us).ext E
theorem Hp.ne (A : Hp Z a0 M h0 hS F0 h H) {i j : Nat} {x y : Addr × OObj} (hi : H[i]? = some x) (hj : H[j]? = some y) (t : x.2.1 = 0 ∨ y.2.1 = 0) (q : i ≠ j) : x.1 ≠ y.1 := fun e => q (A.2.2.2.2 i j x y hi hj e t)
theorem Hp.at {i : Nat} (A : Hp Z a0 M h0 hS F0 h H) (hi : H[i]? = some (a, o)) : OK Z a0 h a o := (A.2.2.2.1 i _ hi).1
/-- one cell is written -/
theorem Hp.wr {i sl : Nat} {b b' : (String × List OFld) ⊕ (String × FieldType × List Value)} (A : Hp Z a0 M h0 hS F0 h H) (hi : H[i]? = some (a, 0, b)) (W : Wr h h' a sl v) (hO : OK Z a0 h' a (0, b')) : Hp Z a0 M h0 hS F0 h' (H.set i (a, 0, b')) := by
  obtain ⟨E, K, Mi, F, I⟩ := A
  have hge := (F i _ hi).2.1 rfl
  have hlt : i < H.length := (List.getElem?_eq_some_iff.mp hi).1
  have K2 := Keep.of_wr W
  have hsf : ∀ x ∈ [a], SafeM Z M h x := fun x hx => by cases List.mem_singleton.mp hx; exact hge.2.2
  have key : ∀ (k : Nat) (x : Addr × OObj), (H.set i (a, 0, b'))[k]? = some x → ∃ x0 : Addr × OObj, H[k]? = some x0 ∧ x0.1 = x.1 ∧ x0.2.1 = x.2.1 := fun k x hk => by
    rw [List.getElem?_set] at hk
    by_cases q : i = k
    · subst q; simp only [if_true, hlt] at hk; cases hk; exact ⟨_, hi, rfl, rfl⟩
    · rw [if_neg q] at hk; exact ⟨x, hk, rfl, rfl⟩
  refine ⟨?_, K.wr W hge.2.1, Mi.keep K2 hsf, fun k x hk => ?_, fun k1 k2 x y h1 h2 e t => ?_⟩
  · refine ⟨Nat.le_trans E.1 K2.1, fun x c hx => K2.2.1 x c (E.2 x c hx) fun q => ?_⟩
    have := (Array.getElem?_eq_some_iff.mp hx).1
    cases List.mem_singleton.mp q
    have := hge.1
    omega
  · rw [List.getElem?_set] at hk
    by_cases q : i = k
    · subst q; simp only [if_true, hlt] at hk; cases hk
      exact ⟨hO, fun _ => ⟨hge.1, hge.2.1, SafeM.keep Mi K2 hsf hge.2.2⟩, fun z => absurd z (by show ¬ (0 : Nat) = 1; decide)⟩
    · rw [if_neg q] at hk
      obtain ⟨r1, r2, r3⟩ := F k x hk
      refine ⟨r1.keep K2 fun z => ?_, fun z => ⟨(r2 z).1, (r2 z).2.1, SafeM.keep Mi K2 hsf (r2 z).2.2⟩, r3⟩
      exact q (I i k _ _ hi hk (List.mem_singleton.mp z).symm (Or.inl rfl))
  · obtain ⟨x0, e1, e2, e2'⟩ := key k1 x h1
    obtain ⟨y0, e3, e4, e4'⟩ := key k2 y h2
    exact I k1 k2 _ _ e1 e3 (by rw [e2, e4, e]) (by rw [e2', e4']; exact t)
/-- a new cell -/
theorem Hp.new {b : (String × List OFld) ⊕ (String × FieldType × List Value)} (A : Hp Z a0 M h0 hS F0 h H) (E' : Ext h h') (hO : OK Z a0 h' h.size (0, b)) : Hp Z a0 M h0 hS F0 h' (H ++ [(h.size, 0, b)]) := by
  obtain ⟨E, K, Mi, F, I⟩ := A
  have K2 := own_keepE E' []
  have hsf : ∀ x ∈ ([] : List Addr), SafeM Z M h x := fun x hx => nomatch hx
  have key : ∀ (k : Nat) (x : Addr × OObj), (H ++ [(h.size, (0, b))])[k]? = some x → (k < H.length ∧ H[k]? = some x) ∨ (k = H.length ∧ x = (h.size, 0, b)) := fun k x hk => by
    rw [List.getElem?_append] at hk
    split at hk
    · rename_i q; exact Or.inl ⟨q, hk⟩
    · rename_i q
      rcases Nat.eq_or_lt_of_le (Nat.le_of_not_lt q) with e | e
      · subst e; simp at hk; exact Or.inr ⟨rfl, hk.symm⟩
      · rw [List.getElem?_eq_none (by simp; omega)] at hk; cases hk
  refine ⟨⟨Nat.le_trans E.1 E'.1, fun x c hx => E'.2 x c (E.2 x c hx)⟩, K.ext E', Mi.keep K2 hsf, fun k x hk => ?_, fun k1 k2 x y h1 h2 e t => ?_⟩
  · rcases key k x hk with ⟨-, q⟩ | ⟨-, rfl⟩
    · obtain ⟨r1, r2, r3⟩ := F k x q
      exact ⟨r1.ext E', fun z => ⟨(r2 z).1, (r2 z).2.1, SafeM.keep Mi K2 hsf (r2 z).2.2⟩, r3⟩
    · exact ⟨hO, fun _ => ⟨E.1, Or.inr K.1, SafeM.keep Mi K2 hsf (SafeM.new (Nat.le_refl _))⟩, fun z => absurd z (by show ¬ (0 : Nat) = 1; decide)⟩
  · rcases key k1 x h1 with ⟨q1, r1⟩ | ⟨q1, rfl⟩ <;> rcases key k2 y h2 with ⟨q2, r2⟩ | ⟨q2, rfl⟩
    · exact I _ _ _ _ r1 r2 e t
    · exact absurd e (Nat.ne_of_lt (F _ _ r1).1.lt)
    · exact absurd e.symm (Nat.ne_of_lt (F _ _ r2).1.lt)
    · rw [q1, q2]
theorem own_pick {H G : OHp} {ix : List Nat} (hG : ix.map (fun i => H[i]?) = G.map some) : ∀ (k : Nat) (x : Addr × OObj), G[k]? = some x → ∃ i : Nat, ix[k]? = some i ∧ H[i]? = some x := fun k x hk => by
  have q : (G.map some)[k]? = some (some x) := by rw [List.getElem?_map, hk]; rfl
  rw [← hG, List.getElem?_map] at q
  cases hi : ix[k]? with
  | none => rw [hi] at q; cases q
  | some i => rw [hi] at q; exact ⟨i, rfl, Option.some.inj q⟩
theorem own_ixinj {ix : List Nat} (hN : ix.Nodup) {k1 k2 i : Nat} (p1 : ix[k1]? = some i) (p2 : ix[k2]? = some i) : k1 = k2 := by
  have e1 := (List.getElem?_eq_some_iff.mp p1)
  have e2 := (List.getElem?_eq_some_iff.mp p2)
  obtain ⟨l1, e1⟩ := e1
  obtain ⟨l2, e2⟩ := e2
  exact (List.getElem_inj hN).mp (e1.trans e2.symm)
/-- fewer, or in another order -/
theorem Hp.sub {G : OHp} (ix : List Nat) (A : Hp Z a0 M h0 hS F0 h H) (hG : ix.map (fun i => H[i]?) = G.map some) (hN : ix.Nodup) : Hp Z a0 M h0 hS F0 h G := by
  have key := own_pick hG
  refine ⟨A.1, A.2.1, A.2.2.1, fun k x hk => ?_, fun k1 k2 x y h1 h2 e t => ?_⟩
  · obtain ⟨i, -, hi⟩ := key k x hk; exact A.2.2.2.1 i x hi
  · obtain ⟨i, p1, q1⟩ := key k1 x h1
    obtain ⟨j, p2, q2⟩ := key k2 y h2
    cases A.2.2.2.2 i j x y q1 q2 e t
    exact own_ixinj hN p1 p2
theorem own_wsOf {F : OHp} {x : Addr × OObj} (hx : x ∈ F) (t : x.2.1 = 0) : x.1 ∈ wsOf F := List.mem_map_of_mem (List.mem_filter.mpr ⟨hx, by simp [t]⟩)
theorem own_ksOf {F : OHp} {x : Addr × OObj} (hx : x ∈ F) (t : x.2.1 = 0 ∨ x.2.1 = 1) : x.1 ∈ ksOf F := List.mem_map_of_mem (List.mem_filter.mpr ⟨hx, by rcases t with t | t <;> simp [t]⟩)
theorem own_wsOf_e {F : OHp} {a : Addr} (h : a ∈ wsOf F) : ∃ x ∈ F, x.1 = a ∧ x.2.1 = 0 := by
  obtain ⟨x, hx, rfl⟩ := List.mem_map.mp h
  obtain ⟨h1, h2⟩ := List.mem_filter.mp hx
  exact ⟨x, h1, rfl, by simpa using h2⟩
theorem own_ksOf_e {F : OHp} {a : Addr} (h : a ∈ ksOf F) : ∃ x ∈ F, x.1 = a ∧ (x.2.1 = 0 ∨ x.2.1 = 1) := by
  obtain ⟨x, hx, rfl⟩ := List.mem_map.mp h
  obtain ⟨h1, h2⟩ := List.mem_filter.mp hx
  exact ⟨x, h1, rfl, by simpa using h2⟩
/-- what a callee is handed -/
theorem Hp.enter {F : OHp} (A : Hp Z a0 M h0 hS F0 h F) : Hp Z a0 none h0 h F h F :=
  ⟨A.1, Keep.refl _ _, trivial, fun i x hi => ⟨(A.2.2.2.1 i x hi).1, fun t => ⟨((A.2.2.2.1 i x hi).2.1 t).1, Or.inl (own_wsOf (List.mem_of_getElem? hi) t), trivial⟩, fun t => Or.inl (own_ksOf (List.mem_of_getElem? hi) (Or.inr t))⟩, A.2.2.2.2⟩
/-- behind a call: the callee's cells, and those that it was not handed (the addresses alone) -/
theorem own_cross {F F' G : OHp} {ix rx : List Nat} (A : Hp Z a0 M h0 hS F0 h H) (hF : ix.map (fun i => H[i]?) = F.map some) (hG : rx.map (fun i => H[i]?) = G.map some) (hN : (ix ++ rx).Nodup)
    (h1 : ∀ x ∈ F', x.2.1 = 0 → x.1 ∈ wsOf F ∨ h.size ≤ x.1) (h2 : ∀ x ∈ F', x.2.1 = 1 → x.1 ∈ ksOf F ∨ h.size ≤ x.1) (hT : own_tg F F' G) :
    ∀ x ∈ F', ∀ y ∈ G, x.2.1 = 0 ∨ y.2.1 = 0 → x.1 ≠ y.1 := by
  intro x hx y hy t e
  have N := List.nodup_append.mp hN
  obtain ⟨k2, g2⟩ := List.mem_iff_getElem?.mp hy
  obtain ⟨j, pj, hj⟩ := own_pick hG k2 y g2
  have hjr : j ∈ rx := List.mem_of_getElem? pj
  have hlt : y.1 < h.size := (A.2.2.2.1 j y hj).1.lt
  have fin : ∀ z ∈ F, z.1 = x.1 → (z.2.1 = 0 ∨ y.2.1 = 0) → False := fun z hz e2 t2 => by
    obtain ⟨k1, g1⟩ := List.mem_iff_getElem?.mp hz
    obtain ⟨i, pi, hi⟩ := own_pick hF k1 z g1
    have := A.2.2.2.2 i j z y hi hj (e2.trans e) t2
    subst this
    exact N.2.2 i (List.mem_of_getElem? pi) i hjr rfl
  by_cases t0 : x.2.1 = 0
  · rcases h1 x hx t0 with q | q
    · obtain ⟨z, hz, e2, tz⟩ := own_wsOf_e q
      exact fin z hz e2 (Or.inl tz)
    · exact absurd hlt (Nat.not_lt.mpr (e ▸ q))
  · have ty : y.2.1 = 0 := t.resolve_left t0
    rcases hT with hT | hT | hT
    · have q := List.all_eq_true.mp hT x hx
      have t1 : x.2.1 = 1 := by simpa [t0] using q
      rcases h2 x hx t1 with q | q
      · obtain ⟨z, hz, e2, -⟩ := own_ksOf_e q
        exact fin z hz e2 (Or.inr ty)
      · exact absurd hlt (Nat.not_lt.mpr (e ▸ q))
    · have q := List.all_eq_true.mp hT y hy
      simp [ty] at q
    · rcases hT x hx with q | q | q
      · exact t0 q
      · rcases h2 x hx q with q | q
        · obtain ⟨z, hz, e2, -⟩ := own_ksOf_e q
          exact fin z hz e2 (Or.inr ty)
        · exact absurd hlt (Nat.not_lt.mpr (e ▸ q))
      · exact fin x q rfl (Or.inr ty)
theorem own_wsSafe {F : OHp} {ix : List Nat} (A : Hp Z a0 M h0 hS F0 h H) (hF : ix.map (fun i => H[i]?) = F.map some) : ∀ x ∈ wsOf F, SafeM Z M h x ∧ h0.size ≤ x ∧ (x ∈ wsOf F0 ∨ hS.size ≤ x) := fun a ha => by
  obtain ⟨z, hz, rfl, tz⟩ := own_wsOf_e ha
  obtain ⟨k1, g1⟩ := List.mem_iff_getElem?.mp hz
  obtain ⟨i, pi, hi⟩ := own_pick hF k1 z g1
  obtain ⟨q1, q2, q3⟩ := (A.2.2.2.1 i z hi).2.1 tz
  exact ⟨q3, q1, q2⟩
theorem own_ks {F : OHp} {ix : List Nat} (A : Hp Z a0 M h0 hS F0 h H) (hF : ix.map (fun i => H[i]?) = F.map some) : ∀ x ∈ ksOf F, x ∈ ksOf F0 ∨ hS.size ≤ x := fun a ha => by
  obtain ⟨z, hz, rfl, tz⟩ := own_ksOf_e ha
  obtain ⟨k1, g1⟩ := List.mem_iff_getElem?.mp hz
  obtain ⟨i, pi, hi⟩ := own_pick hF k1 z g1
  rcases tz with tz | tz
  · rcases ((A.2.2.2.1 i z hi).2.1 tz).2.1 with q | q
    · obtain ⟨w, hw, e, t⟩ := own_wsOf_e q
      exact Or.inl (e ▸ own_ksOf hw (Or.inl t))
    · exact Or.inr q
  · exact (A.2.2.2.1 i z hi).2.2 tz
/-- behind a call by a callee that loads no constant -/
theorem Hp.back {F F' G : OHp} {ix rx : List Nat} (A : Hp Z a0 M h0 hS F0 h H) (hF : ix.map (fun i => H[i]?) = F.map some) (hG : rx.map (fun i => H[i]?) = G.map some) (hN : (ix ++ rx).Nodup) (B : Hp Z a0 none h0 h F h' F')
    (hT : own_tg F F' G) : Hp Z a0 M h0 hS F0 h' (F' ++ G) := by
  have N := List.nodup_append.mp hN
  have AG := A.sub rx hG N.2.1
  have ws := own_wsSafe A hF
  have hsf : ∀ x ∈ wsOf F, SafeM Z M h x := fun x hx => (ws x hx).1
  have cr := own_cross (F' := F') A hF hG hN (fun x hx t => by obtain ⟨k, hk⟩ := List.mem_iff_getElem?.mp hx; exact ((B.2.2.2.1 k x hk).2.1 t).2.1) (fun x hx t => by obtain ⟨k, hk⟩ := List.mem_iff_getElem?.mp hx; exact (B.2.2.2.1 k x hk).2.2 t) hT
  have key : ∀ (k : Nat) (x : Addr × OObj), (F' ++ G)[k]? = some x → (k < F'.length ∧ F'[k]? = some x) ∨ (F'.length ≤ k ∧ G[k - F'.length]? = some x) := fun k x hk => by
    rw [List.getElem?_append] at hk
    split at hk
    · rename_i q; exact Or.inl ⟨q, hk⟩
    · rename_i q; exact Or.inr ⟨Nat.le_of_not_lt q, hk⟩
  refine ⟨B.1, A.2.1.trans B.2.1 fun x hx => (ws x hx).2.2, A.2.2.1.keep B.2.1 hsf, fun k x hk => ?_, fun k1 k2 x y g1 g2 e t => ?_⟩
  · rcases key k x hk with ⟨-, q⟩ | ⟨-, q⟩
    · obtain ⟨r1, r2, r3⟩ := B.2.2.2.1 k x q
      refine ⟨r1, fun t => ⟨(r2 t).1, ?_, ?_⟩, fun t => (r3 t).elim (own_ks A hF _) fun z => Or.inr (Nat.le_trans A.2.1.1 z)⟩
      · exact (r2 t).2.1.elim (fun z => (ws _ z).2.2) fun z => Or.inr (Nat.le_trans A.2.1.1 z)
      · exact (r2 t).2.1.elim (fun z => SafeM.keep A.2.2.1 B.2.1 hsf (hsf _ z)) fun z => SafeM.keep A.2.2.1 B.2.1 hsf (SafeM.new z)
    · obtain ⟨r1, r2, r3⟩ := AG.2.2.2.1 _ x q
      refine ⟨r1.keep B.2.1 fun z => ?_, fun t => ⟨(r2 t).1, (r2 t).2.1, SafeM.keep A.2.2.1 B.2.1 hsf (r2 t).2.2⟩, r3⟩
      obtain ⟨w, hw, e, tw⟩ := own_wsOf_e z
      obtain ⟨k1, p1⟩ := List.mem_iff_getElem?.mp hw
      obtain ⟨i, pi, hi⟩ := own_pick hF k1 w p1
      obtain ⟨j, pj, hj⟩ := own_pick hG _ x q
      have := A.2.2.2.2 i j w x hi hj e (Or.inl tw)
      subst this
      exact N.2.2 i (List.mem_of_getElem? pi) i (List.mem_of_getElem? pj) rfl
  · rcases key k1 x g1 with ⟨l1, q1⟩ | ⟨l1, q1⟩ <;> rcases key k2 y g2 with ⟨l2, q2⟩ | ⟨l2, q2⟩
    · exact B.2.2.2.2 _ _ _ _ q1 q2 e t
    · exact absurd e (cr x (List.mem_of_getElem? q1) y (List.mem_of_getElem? q2) t)
    · exact absurd e.symm (cr y (List.mem_of_getElem? q2) x (List.mem_of_getElem? q1) t.symm)
    · have := AG.2.2.2.2 _ _ _ _ q1 q2 e t; omega
theorem Hp.start (s : State) (a0 : Array Value) : Hp s a0 none s.heap s.heap [] s.heap [] :=
  ⟨⟨Nat.le_refl _, fun _ _ q => q⟩, Keep.refl _ _, trivial, fun i x q => by simp at q, fun i j x y q => by simp at q⟩
end Own
/-! ## own kit, part 2: blocks of plain instructions -/
abbrev OSt := Option (Array Slot × List Value)
def oLen (n k : Nat) (x : OSt) : OSt := if n = k then x else none
def oLdA (Ls : Array Slot) (k : Nat) (st : List Value) : OSt := match Ls[k]? with
  | some (.val (.ref a)) => some (Ls, .ref a :: st)
  | some (.val .null) => some (Ls, .null :: st)
  | _ => none
def oLdI (Ls : Array Slot) (k : Nat) (st : List Value) : OSt := match Ls[k]? with
  | some (.val (.int v)) => some (Ls, .int v :: st)
  | _ => none
def oLdJ (Ls : Array Slot) (k : Nat) (st : List Value) : OSt := match Ls[k]? with
  | some (.val (.long v)) => some (Ls, .long v :: st)
  | _ => none
def oStI (Ls : Array Slot) (k : Nat) (st : List Value) : OSt := match st with
  | .int x :: r => match storeLocals Ls k (.int x) with
    | some l => some (l, r)
    | none => none
  | _ => none
def oStJ (Ls : Array Slot) (k : Nat) (st : List Value) : OSt := match st with
  | .long x :: r => match storeLocals Ls k (.long x) with
    | some l => some (l, r)
    | none => none
  | _ => none
def oStA (Ls : Array Slot) (k : Nat) (st : List Value) : OSt := match st with
  | .ref x :: r => match storeLocals Ls k (.ref x) with
    | some l => some (l, r)
    | none => none
  | .null :: r => match storeLocals Ls k .null with
    | some l => some (l, r)
    | none => none
  | _ => none
def oInc (Ls : Array Slot) (k : Nat) (c : Int) (st : List Value) : OSt := match Ls[k]? with
  | some (.val (.int x)) => match storeLocals Ls k (.int (x + Int32.ofInt c)) with
    | some l => some (l, st)
    | none => none
  | _ => none
def oII (Ls : Array Slot) (st : List Value) (f : Int32 → Int32 → Int32) : OSt := match st with
  | .int y :: .int x :: r => some (Ls, .int (f x y) :: r)
  | _ => none
def oIIz (Ls : Array Slot) (st : List Value) (f : Int32 → Int32 → Int32) : OSt := match st with
  | .int y :: .int x :: r => if y ≠ 0 then some (Ls, .int (f x y) :: r) else none
  | _ => none
def oJJ (Ls : Array Slot) (st : List Value) (f : Int64 → Int64 → Value) : OSt := match st with
  | .long y :: .long x :: r => some (Ls, f x y :: r)
  | _ => none
def oJI (Ls : Array Slot) (st : List Value) (f : Int64 → Int32 → Int64) : OSt := match st with
  | .int y :: .long x :: r => some (Ls, .long (f x y) :: r)
  | _ => none
def oI (Ls : Array Slot) (st : List Value) (f : Int32 → Value) : OSt := match st with
  | .int x :: r => some (Ls, f x :: r)
  | _ => none
def oJ (Ls : Array Slot) (st : List Value) (f : Int64 → Value) : OSt := match st with
  | .long x :: r => some (Ls, f x :: r)
  | _ => none
def oOne : Value → Bool
  | .int _ => true
  | .ref _ => true
  | .null => true
  | _ => false
def oDup (Ls : Array Slot) (st : List Value) : OSt := match st with
  | x :: r => if oOne x = true then some (Ls, x :: x :: r) else none
  | _ => none
def oPop (Ls : Array Slot) (st : List Value) : OSt := match st with
  | x :: r => if oOne x = true then some (Ls, r) else none
  | _ => none
def oDupX (Ls : Array Slot) (st : List Value) : OSt := match st with
  | x :: y :: r => if oOne x = true then (if oOne y = true then some (Ls, x :: y :: x :: r) else none) else none
  | _ => none
abbrev oUshr (x y : Int32) : Int32 := (x.toUInt32 >>> (y &&& 31).toUInt32).toInt32
abbrev oLushr (x : Int64) (y : Int32) : Int64 := (x.toUInt64 >>> (y &&& 0x3f).toInt64.toUInt64).toInt64
abbrev oI2c (x : Int32) : Int32 := x.toUInt32.toUInt16.toUInt32.toInt32
abbrev oI2b (x : Int32) : Int32 := x.toInt8.toInt32
abbrev oLcmp (x y : Int64) : Int32 := if x > y then 1 else if x = y then 0 else -1
def oEx (i : Instr) (n : Nat) (Ls : Array Slot) (st : List Value) : OSt := match i with
  | .aload_n k => oLen n 1 (oLdA Ls k.val st)
  | .aload k => oLen n 2 (oLdA Ls k st)
  | .iload_n k => oLen n 1 (oLdI Ls k.val st)
  | .iload k => oLen n 2 (oLdI Ls k st)
  | .lload_n k => oLen n 1 (oLdJ Ls k.val st)
  | .lload k => oLen n 2 (oLdJ Ls k st)
  | .istore_n k => oLen n 1 (oStI Ls k.val st)
  | .istore k => oLen n 2 (oStI Ls k st)
  | .lstore_n k => oLen n 1 (oStJ Ls k.val st)
  | .lstore k => oLen n 2 (oStJ Ls k st)
  | .astore_n k => oLen n 1 (oStA Ls k.val st)
  | .astore k => oLen n 2 (oStA Ls k st)
  | .iinc k c => oLen n 3 (oInc Ls k c st)
  | .iconst v => oLen n 1 (some (Ls, .int (Int32.ofInt v) :: st))
  | .lconst v => oLen n 1 (some (Ls, .long (Int64.ofNat v) :: st))
  | .bipush v => oLen n 2 (some (Ls, .int (Int8.ofInt v).toInt32 :: st))
  | .sipush v => oLen n 3 (some (Ls, .int (Int16.ofInt v).toInt32 :: st))
  | .aconst_null => oLen n 1 (some (Ls, .null :: st))
  | .iadd => oLen n 1 (oII Ls st (fun x y => x + y))
  | .isub => oLen n 1 (oII Ls st (fun x y => x - y))
  | .imul => oLen n 1 (oII Ls st (fun x y => x * y))
  | .iand => oLen n 1 (oII Ls st (fun x y => x &&& y))
  | .ior => oLen n 1 (oII Ls st (fun x y => x ||| y))
  | .ixor => oLen n 1 (oII Ls st (fun x y => x ^^^ y))
  | .ishl => oLen n 1 (oII Ls st (fun x y => x <<< (y &&& 31)))
  | .ishr => oLen n 1 (oII Ls st (fun x y => x >>> (y &&& 31)))
  | .iushr => oLen n 1 (oII Ls st (fun x y => oUshr x y))
  | .irem => oLen n 1 (oIIz Ls st (fun x y => x % y))
  | .idiv => oLen n 1 (oIIz Ls st (fun x y => x / y))
  | .ineg => oLen n 1 (oI Ls st (fun x => .int (-x)))
  | .ladd => oLen n 1 (oJJ Ls st (fun x y => .long (x + y)))
  | .lsub => oLen n 1 (oJJ Ls st (fun x y => .long (x - y)))
  | .lmul => oLen n 1 (oJJ Ls st (fun x y => .long (x * y)))
  | .land => oLen n 1 (oJJ Ls st (fun x y => .long (x &&& y)))
  | .lcmp => oLen n 1 (oJJ Ls st (fun x y => .int (oLcmp x y)))
  | .lushr => oLen n 1 (oJI Ls st (fun x y => oLushr x y))
  | .l2i => oLen n 1 (oJ Ls st (fun x => .int x.toInt32))
  | .i2l => oLen n 1 (oI Ls st (fun x => .long x.toInt64))
  | .i2b => oLen n 1 (oI Ls st (fun x => .int (oI2b x)))
  | .i2c => oLen n 1 (oI Ls st (fun x => .int (oI2c x)))
  | .dup => oLen n 1 (oDup Ls st)
  | .pop => oLen n 1 (oPop Ls st)
  | .dup_x1 => oLen n 1 (oDupX Ls st)
  | _ => none
def oRun : List (Instr × Nat) → Array Slot → List Value → OSt
  | [], Ls, st => some (Ls, st)
  | i :: r, Ls, st => match oEx i.1 i.2 Ls st with
    | some x => oRun r x.1 x.2
    | none => none
def oEnd (pc : Nat) : List (Instr × Nat) → Nat
  | [] => pc
  | i :: r => oEnd (pc + i.2) r
def oAt (code : ByteArray) (pc : Nat) (i : Instr × Nat) : Bool := match decode code pc with
  | .ok j => decide (j = i)
  | .error _ => false
def oBlk (code : ByteArray) (pc : Nat) : List (Instr × Nat) → Bool
  | [] => true
  | i :: r => oAt code pc i && oBlk code (pc + i.2) r
theorem oAt.dec {code : ByteArray} {pc : Nat} {i : Instr × Nat} (h : oAt code pc i = true) : decode code pc = .ok i := by
  unfold oAt at h
  split at h
  · rename_i j e; rw [e, of_decide_eq_true h]
  · cases h
theorem oLen.e {n k : Nat} {x : OSt} {y : Array Slot × List Value} (h : oLen n k x = some y) : n = k ∧ x = some y := by
  unfold oLen at h; split at h
  · exact ⟨by assumption, h⟩
  · cases h
theorem oOne.cat {x : Value} (h : oOne x = true) : x.category = 1 := by cases x <;> simp [oOne, Value.category] at h ⊢
section Sound
variable {tb : Tables} [Ours tb] {e : Env} {below : List Frame} {T target : State} {m : MethodId} {c : Code} {pc : Nat} {Ls L' : Array Slot} {st S' : List Value}
set_option maxHeartbeats 4000000 in
theorem oEx.sound {i : Instr} {n : Nat} (h : At T m c below) (hx : tb.exec = Jvm.exec) (hd : decode c.code pc = .ok (i, n)) (he : oEx i n Ls st = some (L', S'))
    (hr : Steps tb e below (T.setTop (mkF m (pc + n) L' S')) target) : Steps tb e below (T.setTop (mkF m pc Ls st)) target := by
  unfold oEx at he
  split at he <;> first | (cases he; done) | skip
  all_goals (obtain ⟨rfl, he⟩ := oLen.e he)
  · unfold oLdA at he; split at he <;> first | (cases he; done) | skip
    · rename_i q; cases he; exact XS.aloadN h hx rfl hd q rfl hr
    · rename_i q; cases he; exact XS.aloadN h hx rfl hd q rfl hr
  · unfold oLdA at he; split at he <;> first | (cases he; done) | skip
    · rename_i q; cases he; exact XS.aload h hx rfl hd q rfl hr
    · rename_i q; cases he; exact XS.aload h hx rfl hd q rfl hr
  · unfold oLdI at he; split at he <;> first | (cases he; done) | skip
    rename_i q; cases he; exact XS.iloadN h hx rfl hd q hr
  · unfold oLdI at he; split at he <;> first | (cases he; done) | skip
    rename_i q; cases he; exact XS.iload h hx rfl hd q hr
  · unfold oLdJ at he; split at he <;> first | (cases he; done) | skip
    rename_i q; cases he; exact XS.lloadN h hx rfl hd q hr
  · unfold oLdJ at he; split at he <;> first | (cases he; done) | skip
    rename_i q; cases he; exact XS.lload h hx rfl hd q hr
  · unfold oStI at he; split at he <;> first | (cases he; done) | skip
    split at he <;> first | (cases he; done) | skip
    rename_i q; cases he; exact XS.istoreN h hx rfl hd rfl q hr
  · unfold oStI at he; split at he <;> first | (cases he; done) | skip
    split at he <;> first | (cases he; done) | skip
    rename_i q; cases he; exact XS.istore h hx rfl hd rfl q hr
  · unfold oStJ at he; split at he <;> first | (cases he; done) | skip
    split at he <;> first | (cases he; done) | skip
    rename_i q; cases he; exact XS.lstoreN h hx rfl hd rfl q hr
  · unfold oStJ at he; split at he <;> first | (cases he; done) | skip
    split at he <;> first | (cases he; done) | skip
    rename_i q; cases he; exact XS.lstore h hx rfl hd rfl q hr
  · unfold oStA at he; split at he <;> first | (cases he; done) | skip
    all_goals (split at he <;> first | (cases he; done) | skip)
    all_goals (rename_i q; cases he; exact XS.astoreN h hx rfl hd rfl rfl q hr)
  · unfold oStA at he; split at he <;> first | (cases he; done) | skip
    all_goals (split at he <;> first | (cases he; done) | skip)
    all_goals (rename_i q; cases he; exact XS.astore h hx rfl hd rfl rfl q hr)
  · unfold oInc at he; split at he <;> first | (cases he; done) | skip
    rename_i q0
    split at he <;> first | (cases he; done) | skip
    rename_i q; cases he; exact XS.iinc h hx rfl hd q0 q hr
  · cases he; exact XS.iconst h hx rfl hd hr
  · cases he; exact XS.lconst h hx rfl hd hr
  · cases he; exact XS.bipush h hx rfl hd hr
  · cases he; exact XS.sipush h hx rfl hd hr
  · cases he; exact XS.aconstNull h hx rfl hd hr
  · unfold oII at he; split at he <;> first | (cases he; done) | skip
    cases he; exact XS.iadd h hx rfl hd rfl hr
  · unfold oII at he; split at he <;> first | (cases he; done) | skip
    cases he; exact XS.isub h hx rfl hd rfl hr
  · unfold oII at he; split at he <;> first | (cases he; done) | skip
    cases he; exact XS.imul h hx rfl hd rfl hr
  · unfold oII at he; split at he <;> first | (cases he; done) | skip
    cases he; exact XS.iand h hx rfl hd rfl hr
  · unfold oII at he; split at he <;> first | (cases he; done) | skip
    cases he; exact XS.ior h hx rfl hd rfl hr
  · unfold oII at he; split at he <;> first | (cases he; done) | skip
    cases he; exact XS.ixor h hx rfl hd rfl hr
  · unfold oII at he; split at he <;> first | (cases he; done) | skip
    cases he; exact XS.ishl h hx rfl hd rfl hr
  · unfold oII at he; split at he <;> first | (cases he; done) | skip
    cases he; exact XS.ishr h hx rfl hd rfl hr
  · unfold oII at he; split at he <;> first | (cases he; done) | skip
    cases he; exact XS.iushr h hx rfl hd rfl hr
  · unfold oIIz at he; split at he <;> first | (cases he; done) | skip
    split at he <;> first | (cases he; done) | skip
    rename_i hy
    cases he
    refine XS.irem h hx rfl hd rfl hy ?_
    rw [irem_eq_mod]; exact hr
  · unfold oIIz at he; split at he <;> first | (cases he; done) | skip
    split at he <;> first | (cases he; done) | skip
    rename_i hy
    cases he; exact XS.idiv h hx rfl hd rfl hy hr
  · unfold oI at he; split at he <;> first | (cases he; done) | skip
    cases he; exact XS.ineg h hx rfl hd rfl hr
  · unfold oJJ at he; split at he <;> first | (cases he; done) | skip
    cases he; exact XS.ladd h hx rfl hd rfl hr
  · unfold oJJ at he; split at he <;> first | (cases he; done) | skip
    cases he; exact XS.lsub h hx rfl hd rfl hr
  · unfold oJJ at he; split at he <;> first | (cases he; done) | skip
    cases he; exact XS.lmul h hx rfl hd rfl hr
  · unfold oJJ at he; split at he <;> first | (cases he; done) | skip
    cases he; exact XS.land h hx rfl hd rfl hr
  · unfold oJJ at he; split at he <;> first | (cases he; done) | skip
    cases he; exact XS.lcmp h hx rfl hd rfl hr
  · unfold oJI at he; split at he <;> first | (cases he; done) | skip
    cases he; exact XS.lushr h hx rfl hd rfl hr
  · unfold oJ at he; split at he <;> first | (cases he; done) | skip
    cases he; exact XS.l2i h hx rfl hd rfl hr
  · unfold oI at he; split at he <;> first | (cases he; done) | skip
    cases he; exact XS.i2l h hx rfl hd rfl hr
  · unfold oI at he; split at he <;> first | (cases he; done) | skip
    cases he; exact XS.i2b h hx rfl hd rfl hr
  · unfold oI at he; split at he <;> first | (cases he; done) | skip
    cases he; exact XS.i2c h hx rfl hd rfl hr
  · unfold oDup at he; split at he <;> first | (cases he; done) | skip
    split at he <;> first | (cases he; done) | skip
    rename_i q; cases he; exact XS.dup h hx rfl hd rfl (oOne.cat q) hr
  · unfold oPop at he; split at he <;> first | (cases he; done) | skip
    split at he <;> first | (cases he; done) | skip
    rename_i q; cases he; exact XS.pop h hx rfl hd rfl (oOne.cat q) hr
  · unfold oDupX at he; split at he <;> first | (cases he; done) | skip
    split at he <;> first | (cases he; done) | skip
    rename_i q1
    split at he <;> first | (cases he; done) | skip
    rename_i q2; cases he; exact XS.dupX1 h hx rfl hd rfl (oOne.cat q1) (oOne.cat q2) hr
theorem oRun.sound (is : List (Instr × Nat)) : ∀ {pc : Nat} {Ls : Array Slot} {st : List Value}, At T m c below → tb.exec = Jvm.exec → oBlk c.code pc is = true → oRun is Ls st = some (L', S') →
    Steps tb e below (T.setTop (mkF m (oEnd pc is) L' S')) target → Steps tb e below (T.setTop (mkF m pc Ls st)) target := by
  induction is with
  | nil => intro pc Ls st h hx hb he hr; cases he; exact hr
  | cons i r ih =>
    intro pc Ls st h hx hb he hr
    simp only [oBlk, Bool.and_eq_true] at hb
    simp only [oRun] at he
    split at he
    · rename_i x q
      exact oEx.sound h hx (oAt.dec hb.1) q (ih h hx hb.2 he hr)
    · cases he
end Sound
/-! ## own kit, wide form, part 3: from a frame the run goes to its return; in mode 'some' String constants may have been loaded since the start s0 -/
def Cx (p : Program) (s : State) (m : MethodId) (meth : Method) (c : Code) (Z : State) (y : MethodName) (code : ByteArray) (maxL : Nat) (ret : Option FieldType) : Prop :=
  p.tables.exec = Jvm.exec ∧ c.code = code ∧ c.maxLocals = maxL ∧ s.vm.findClass y.cls = some m.cls ∧ meth.name = y.name ∧ meth.sig.returnType = ret ∧ meth.locks = false ∧ Z.Warmed39 s.vm
def MS (M : OMode) (s0 s : State) : Prop := match M with
  | none => s = s0
  | some (_, _, vm0, k0) => s = s0.setVm vm0 ∧ s0.Since vm0 k0
def FinM (Z : State) (a0 : Array Value) (M : OMode) (s0 : State) (h0 hS : Heap) (F0 : OHp) (rc rs : Nat) (Q : Option Value → OHp → Prop) (v : Option Value) (L : List Loc) (o : Outcome) (t : State) : Prop := match M with
  | none => (∃ F', Q v F' ∧ Hp Z a0 none h0 hS F0 t.heap F') ∧ FrameEnd s0 o t L rc rs
  | some (EL, vmS, _, _) => (∃ F' k1, Q v F' ∧ Hp Z a0 (some (EL, vmS, t.vm, k1)) h0 hS F0 t.heap F') ∧ ReturnedEndW s0 o t L rc rs
def Ends (p : Program) (e : Env) (s0 : State) (below : List Frame) (Z : State) (a0 : Array Value) (M : OMode) (h0 hS : Heap) (F0 : OHp) (rc rs : Nat) (Q : Option Value → OHp → Prop) (T : State) (g : JFrame) : Prop :=
  ∃ t o, Steps p.tables e below (T.setTop g) t ∧ t.status = .running ∧ Ended t below o ∧ ∃ v L, o = .returned v ∧ Fr h0.size L ∧ FinM Z a0 M s0 h0 hS F0 rc rs Q v L o t
def Goes (p : Program) (l : Launch) (e : Env) (R : Room) (s : State) (m : MethodId) (args : Array Value) (below : List Frame) (meth : Method) (c : Code) (Z : State) (a0 : Array Value) (M : OMode) (s0 : State) (h0 hS : Heap) (F0 : OHp) (rc rs : Nat) (Q : Option Value → OHp → Prop) (H : OHp) (cells slots : Nat) (g : JFrame) : Prop :=
  ∀ (T : State) (locs : List Loc), MS M s0 s → Stand p l e R s m args below meth c T locs cells slots → Fr h0.size locs → Hp Z a0 M h0 hS F0 T.heap H → Ends p e s0 below Z a0 M h0 hS F0 rc rs Q T g
def Does (l : Launch) (Z : State) (a0 : Array Value) (h0 : Heap) (y : MethodName) (code : ByteArray) (maxL : Nat) (ret : Option FieldType) (rm : Room) (as' : Array Value) (F : OHp) (Q : Option Value → OHp → Prop) : Prop :=
  ∀ (ws : List Jvm.Cond) (h : Heap), Hp Z a0 none h0 h F h F → MetFree l y (head1 (Jvm.Cond.code y code maxL ret :: ws) rm) (fun a U => a = as' ∧ Z.Warmed39 U.vm ∧ U.heap = h) (fun _ _ _ _ _ => True)
    (fun _ U o U' => ∃ v L, o = .returned v ∧ (Fr h0.size L ∧ ∃ F', Q v F' ∧ Hp Z a0 none h0 h F U'.heap F') ∧ FrameEnd U o U' L rm.cells rm.slots)
/-- a method that may load String constants of EL -/
def DoesW (l : Launch) (Z : State) (a0 : Array Value) (EL : List (String × Nat)) (h0 : Heap) (y : MethodName) (code : ByteArray) (maxL : Nat) (ret : Option FieldType) (rm : Room) (as' : Array Value) (F : OHp) (Q : Option Value → OHp → Prop) : Prop :=
  ∀ (ws : List Jvm.Cond) (h : Heap), MetFree l y (head1 (Jvm.Cond.code y code maxL ret :: ws) rm) (fun a U => a = as' ∧ Z.Warmed39 U.vm ∧ U.heap = h ∧ Hp Z a0 (some (EL, U.vm, U.vm, h.size)) h0 h F h F) (fun _ _ _ _ _ => True)
    (fun _ U o U' => ∃ v L, o = .returned v ∧ (Fr h0.size L ∧ ∃ F' k1, Q v F' ∧ Hp Z a0 (some (EL, U.vm, U'.vm, k1)) h0 h F U'.heap F') ∧ ReturnedEndW U o U' L rm.cells rm.slots)
theorem Does.mk {l : Launch} {Z : State} {a0 : Array Value} {h0 : Heap} {y : MethodName} {code : ByteArray} {maxL : Nat} {ret : Option FieldType} {rm : Room} {as' : Array Value} {F : OHp} {Q : Option Value → OHp → Prop} (Ls : Array Slot)
    (hp : plainFor y = true) (hent : ∀ m, entryFrame m as' maxL = mkF m 0 Ls [])
    (K : ∀ (p : Program) (e : Env) (s : State) (m : MethodId) (args : Array Value) (below : List Frame) (meth : Method) (c : Code) (h : Heap), Cx p s m meth c Z y code maxL ret → Goes p l e rm s m args below meth c Z a0 none s h0 h F rm.cells rm.slots Q F 0 0 (mkF m 0 Ls [])) :
    Does l Z a0 h0 y code maxL ret rm as' F Q := by
  intro ws h hH
  refine MetFree.of_bodySF (code := code) (maxLocals := maxL) (ret := ret) hp hisR ?_
  intro p e s m args below meth c s₁ Bd hml hP hK
  obtain ⟨rfl, hZ, hh⟩ := hP
  have X0 : Stand p l e rm s m args below meth c s₁ [] 0 0 := Stand.of_body Bd
  have e0 : s₁.heap = h := by rw [← hh, Bd.state]; rfl
  have G := K p e s m args below meth c h ⟨Bd.exec, Bd.bytes, hml, findClass_of_methodNamed Bd.named, (name_of_methodNamed Bd.named Bd.method).1, Bd.returns, Bd.notSynchronized, hZ⟩ s₁ [] rfl X0 (Fr.nil _) (by rw [e0]; exact hH)
  obtain ⟨t, o, h1, h2, h3, v, L, h4, h5, h6, h7⟩ := G
  exact ⟨t, o, castTop (hent m) h1, h2, h3, v, L, h4, ⟨h5, h6⟩, h7⟩
theorem DoesW.mk {l : Launch} {Z : State} {a0 : Array Value} {EL : List (String × Nat)} {h0 : Heap} {y : MethodName} {code : ByteArray} {maxL : Nat} {ret : Option FieldType} {rm : Room} {as' : Array Value} {F : OHp} {Q : Option Value → OHp → Prop} (Ls : Array Slot)
    (hp : plainFor y = true) (hent : ∀ m, entryFrame m as' maxL = mkF m 0 Ls [])
    (K : ∀ (p : Program) (e : Env) (s0 : State) (vmS vm0 : Vm) (k0 : Nat) (m : MethodId) (args : Array Value) (below : List Frame) (meth : Method) (c : Code) (h : Heap), Cx p (s0.setVm vm0) m meth c Z y code maxL ret → Goes p l e rm (s0.setVm vm0) m args below meth c Z a0 (some (EL, vmS, vm0, k0)) s0 h0 h F rm.cells rm.slots Q F 0 0 (mkF m 0 Ls [])) :
    DoesW l Z a0 EL h0 y code maxL ret rm as' F Q := by
  intro ws h
  refine MetFree.of_bodySF (code := code) (maxLocals := maxL) (ret := ret) hp hisR ?_
  intro p e s m args below meth c s₁ Bd hml hP hK
  obtain ⟨rfl, hZ, hh, hH⟩ := hP
  have X0 : Stand p l e rm s m args below meth c s₁ [] 0 0 := Stand.of_body Bd
  have e0 : s₁.heap = h := by rw [← hh, Bd.state]; rfl
  have G := K p e s s.vm s.vm h.size m args below meth c h ⟨Bd.exec, Bd.bytes, hml, findClass_of_methodNamed Bd.named, (name_of_methodNamed Bd.named Bd.method).1, Bd.returns, Bd.notSynchronized, hZ⟩ s₁ [] ⟨rfl, (State.WarmedH.refl s).since _⟩ X0 (Fr.nil _) (by rw [e0]; exact hH)
  obtain ⟨t, o, h1, h2, h3, v, L, h4, h5, h6, h7⟩ := G
  exact ⟨t, o, castTop (hent m) h1, h2, h3, v, L, h4, ⟨h5, h6⟩, h7⟩
/-- the tables at hand -/
theorem Hp.atVm {p : Program} {l : Launch} {e : Env} {R : Room} {s0 : State} {m : MethodId} {args : Array Value} {below : List Frame} {meth : Method} {c : Code} {T : State} {locs : List Loc} {cells slots : Nat} {Z : State} {a0 : Array Value} {h0 hS : Heap} {F0 H : OHp} {EL : List (String × Nat)} {vmS vm0 : Vm} {k0 : Nat}
    (Y : Stand p l e R (s0.setVm vm0) m args below meth c T locs cells slots) (A : Hp Z a0 (some (EL, vmS, vm0, k0)) h0 hS F0 T.heap H) : Hp Z a0 (some (EL, vmS, T.vm, k0)) h0 hS F0 T.heap H := by
  obtain ⟨E, K, ⟨w, hZ, C, hk⟩, F, I⟩ := A
  have B := CHv.at Y hZ w C.1
  refine ⟨E, K, ⟨w, wtrans (s := s0.setVm vm0) hZ Y.warmed, C.trans B, hk⟩, fun i x hi => ?_, I⟩
  obtain ⟨r1, r2, r3⟩ := F i x hi
  exact ⟨r1, fun t => ⟨(r2 t).1, (r2 t).2.1, B.safe r1.lt (r2 t).2.2⟩, r3⟩
section Goes
variable {p : Program} {l : Launch} {e : Env} {R : Room} {s : State} {m : MethodId} {args : Array Value} {below : List Frame} {meth : Method} {c : Code} {Z : State} {a0 : Array Value} {h0 hS : Heap} {M : OMode} {s0 : State} {F0 : OHp} {rc rs : Nat} {Q : Option Value → OHp → Prop} {H : OHp} {cells slots : Nat} {y : MethodName} {code : ByteArray} {maxL : Nat} {ret : Option FieldType} {pc : Nat} {Ls : Array Slot} {st : List Value}
theorem Ends.via {T T' : State} {g g' : JFrame} (k : Ends p e s0 below Z a0 M h0 hS F0 rc rs Q T' g') (st : ∀ t, Steps p.tables e below (T'.setTop g') t → Steps p.tables e below (T.setTop g) t) : Ends p e s0 below Z a0 M h0 hS F0 rc rs Q T g := by
  obtain ⟨t, o, h1, r⟩ := k
  exact ⟨t, o, st _ h1, r⟩
theorem Goes.run (X : Cx p s m meth c Z y code maxL ret) (is : List (Instr × Nat)) {L' : Array Slot} {S' : List Value} {pc' : Nat} (he : oRun is Ls st = some (L', S')) (k : Goes p l e R s m args below meth c Z a0 M s0 h0 hS F0 rc rs Q H cells slots (mkF m pc' L' S')) (hb : oBlk code pc is = true := by decide +kernel) (hp : oEnd pc is = pc' := by rfl) : Goes p l e R s m args below meth c Z a0 M s0 h0 hS F0 rc rs Q H cells slots (mkF m pc Ls st) := fun T locs S Y N A => by
  subst hp
  exact (k T locs S Y N A).via fun t q => oRun.sound is Y.here X.1 (by rw [X.2.1]; exact hb) he q
theorem Goes.runS (X : Cx p s m meth c Z y code maxL ret) (is : List (Instr × Nat)) {S' : List Value} {pc' : Nat} (he : oRun is Ls st = some (Ls, S')) (k : Goes p l e R s m args below meth c Z a0 M s0 h0 hS F0 rc rs Q H cells slots (mkF m pc' Ls S')) (hb : oBlk code pc is = true := by decide +kernel) (hp : oEnd pc is = pc' := by rfl) : Goes p l e R s m args below meth c Z a0 M s0 h0 hS F0 rc rs Q H cells slots (mkF m pc Ls st) := Goes.run X is he k hb hp
theorem Goes.goto (X : Cx p s m meth c Z y code maxL ret) {o : Int} {pc' : Nat} (k : Goes p l e R s m args below meth c Z a0 M s0 h0 hS F0 rc rs Q H cells slots (mkF m pc' Ls st)) (hd : oAt code pc (.goto o, 3) = true := by decide +kernel) (ho : 0 ≤ (pc : Int) + o := by decide) (hp : ((pc : Int) + o).toNat = pc' := by decide) : Goes p l e R s m args below meth c Z a0 M s0 h0 hS F0 rc rs Q H cells slots (mkF m pc Ls st) := fun T locs S Y N A =>
  (k T locs S Y N A).via fun t q => XS.goto Y.here X.1 rfl (pc0 := pc) rfl (hb X.2.1 (oAt.dec hd)) ho hp q
theorem Goes.if1 (X : Cx p s m meth c Z y code maxL ret) {cd : ClassFile.Cond} {o : Int} {pc' : Nat} {x : Int32} (k1 : ifCond.holds cd x = true → Goes p l e R s m args below meth c Z a0 M s0 h0 hS F0 rc rs Q H cells slots (mkF m pc' Ls st)) (k2 : ifCond.holds cd x = false → Goes p l e R s m args below meth c Z a0 M s0 h0 hS F0 rc rs Q H cells slots (mkF m (pc + 3) Ls st)) (hd : oAt code pc (.ifCond cd o, 3) = true := by decide +kernel) (ho : 0 ≤ (pc : Int) + o := by decide) (hp : ((pc : Int) + o).toNat = pc' := by decide) : Goes p l e R s m args below meth c Z a0 M s0 h0 hS F0 rc rs Q H cells slots (mkF m pc Ls (.int x :: st)) := fun T locs S Y N A => by
  cases q : ifCond.holds cd x with
  | true => exact (k1 q T locs S Y N A).via fun t r => XS.ifYes Y.here X.1 rfl (pc0 := pc) rfl (hb X.2.1 (oAt.dec hd)) rfl q ho hp r
  | false => exact (k2 q T locs S Y N A).via fun t r => XS.ifNo Y.here X.1 rfl (hb X.2.1 (oAt.dec hd)) rfl q r
theorem Goes.if2 (X : Cx p s m meth c Z y code maxL ret) {cd : ClassFile.Cond} {o : Int} {pc' : Nat} {x z : Int32} (k1 : if_icmp.holds cd x z = true → Goes p l e R s m args below meth c Z a0 M s0 h0 hS F0 rc rs Q H cells slots (mkF m pc' Ls st)) (k2 : if_icmp.holds cd x z = false → Goes p l e R s m args below meth c Z a0 M s0 h0 hS F0 rc rs Q H cells slots (mkF m (pc + 3) Ls st)) (hd : oAt code pc (.if_icmp cd o, 3) = true := by decide +kernel) (ho : 0 ≤ (pc : Int) + o := by decide) (hp : ((pc : Int) + o).toNat = pc' := by decide) : Goes p l e R s m args below meth c Z a0 M s0 h0 hS F0 rc rs Q H cells slots (mkF m pc Ls (.int z :: .int x :: st)) := fun T locs S Y N A => by
  cases q : if_icmp.holds cd x z with
  | true => exact (k1 q T locs S Y N A).via fun t r => XS.icmpYes Y.here X.1 rfl (pc0 := pc) rfl (hb X.2.1 (oAt.dec hd)) rfl q ho hp r
  | false => exact (k2 q T locs S Y N A).via fun t r => XS.icmpNo Y.here X.1 rfl (hb X.2.1 (oAt.dec hd)) rfl q r
theorem Goes.ifA (X : Cx p s m meth c Z y code maxL ret) {cd : ClassFile.ACond} {o : Int} {pc' : Nat} {x z : Value} (h1 : x.isRef = true) (h2 : z.isRef = true) (k1 : acV cd (decide (x = z)) = true → Goes p l e R s m args below meth c Z a0 M s0 h0 hS F0 rc rs Q H cells slots (mkF m pc' Ls st)) (k2 : acV cd (decide (x = z)) = false → Goes p l e R s m args below meth c Z a0 M s0 h0 hS F0 rc rs Q H cells slots (mkF m (pc + 3) Ls st)) (hd : oAt code pc (.if_acmp cd o, 3) = true := by decide +kernel) (ho : 0 ≤ (pc : Int) + o := by decide) (hp : ((pc : Int) + o).toNat = pc' := by decide) : Goes p l e R s m args below meth c Z a0 M s0 h0 hS F0 rc rs Q H cells slots (mkF m pc Ls (z :: x :: st)) := fun T locs S Y N A => by
  cases q : acV cd (decide (x = z)) with
  | true => exact (k1 q T locs S Y N A).via fun t r => acmp Y X.1 rfl h1 h2 (pc0 := pc) (pc' := pc') rfl (hb X.2.1 (oAt.dec hd)) rfl rfl ho (by rw [if_pos q]; exact hp.symm) r
  | false => exact (k2 q T locs S Y N A).via fun t r => acmp Y X.1 rfl h1 h2 (pc0 := pc) (pc' := pc + 3) rfl (hb X.2.1 (oAt.dec hd)) rfl rfl ho (by rw [if_neg (by rw [q]; simp)]) r
theorem Goes.nullY (X : Cx p s m meth c Z y code maxL ret) {o : Int} {pc' : Nat} (k : Goes p l e R s m args below meth c Z a0 M s0 h0 hS F0 rc rs Q H cells slots (mkF m pc' Ls st)) (hd : oAt code pc (.ifnull o, 3) = true := by decide +kernel) (ho : 0 ≤ (pc : Int) + o := by decide) (hp : ((pc : Int) + o).toNat = pc' := by decide) : Goes p l e R s m args below meth c Z a0 M s0 h0 hS F0 rc rs Q H cells slots (mkF m pc Ls (.null :: st)) := fun T locs S Y N A =>
  (k T locs S Y N A).via fun t r => XS.ifnullYes Y.here X.1 rfl (pc0 := pc) rfl (hb X.2.1 (oAt.dec hd)) rfl ho hp r
theorem Goes.nullN (X : Cx p s m meth c Z y code maxL ret) {o : Int} {b : Addr} (k : Goes p l e R s m args below meth c Z a0 M s0 h0 hS F0 rc rs Q H cells slots (mkF m (pc + 3) Ls st)) (hd : oAt code pc (.ifnull o, 3) = true := by decide +kernel) : Goes p l e R s m args below meth c Z a0 M s0 h0 hS F0 rc rs Q H cells slots (mkF m pc Ls (.ref b :: st)) := fun T locs S Y N A =>
  (k T locs S Y N A).via fun t r => XS.ifnullNo Y.here X.1 rfl (hb X.2.1 (oAt.dec hd)) rfl r
theorem Goes.nonY (X : Cx p s m meth c Z y code maxL ret) {o : Int} {pc' : Nat} {b : Addr} (k : Goes p l e R s m args below meth c Z a0 M s0 h0 hS F0 rc rs Q H cells slots (mkF m pc' Ls st)) (hd : oAt code pc (.ifnonnull o, 3) = true := by decide +kernel) (ho : 0 ≤ (pc : Int) + o := by decide) (hp : ((pc : Int) + o).toNat = pc' := by decide) : Goes p l e R s m args below meth c Z a0 M s0 h0 hS F0 rc rs Q H cells slots (mkF m pc Ls (.ref b :: st)) := fun T locs S Y N A =>
  (k T locs S Y N A).via fun t r => XS.ifnonnullYes Y.here X.1 rfl (pc0 := pc) rfl (hb X.2.1 (oAt.dec hd)) rfl ho hp r
theorem Goes.nonN (X : Cx p s m meth c Z y code maxL ret) {o : Int} (k : Goes p l e R s m args below meth c Z a0 M s0 h0 hS F0 rc rs Q H cells slots (mkF m (pc + 3) Ls st)) (hd : oAt code pc (.ifnonnull o, 3) = true := by decide +kernel) : Goes p l e R s m args below meth c Z a0 M s0 h0 hS F0 rc rs Q H cells slots (mkF m pc Ls (.null :: st)) := fun T locs S Y N A =>
  (k T locs S Y N A).via fun t r => XS.ifnonnullNo Y.here X.1 rfl (hb X.2.1 (oAt.dec hd)) rfl r
theorem Goes.ldcI (X : Cx p s m meth c Z y code maxL ret) {index : Nat} {v : Int32} (w : (Jvm.Cond.constant y.cls index v).before a0 Z = true) (k : Goes p l e R s m args below meth c Z a0 M s0 h0 hS F0 rc rs Q H cells slots (mkF m (pc + 2) Ls (.int v :: st))) (hd : oAt code pc (.ldc index, 2) = true := by decide +kernel) : Goes p l e R s m args below meth c Z a0 M s0 h0 hS F0 rc rs Q H cells slots (mkF m pc Ls st) := fun T locs S Y N A =>
  (k T locs S Y N A).via fun t r => Y.ldcI X.1 X.2.2.2.1 (mvT X.2.2.2.2.2.2.2 w) rfl (hb X.2.1 (oAt.dec hd)) r
/-- fewer objects, or in another order -/
theorem Goes.sub {G : OHp} (ix : List Nat) (hG : ix.map (fun i => H[i]?) = G.map some) {g : JFrame} (k : Goes p l e R s m args below meth c Z a0 M s0 h0 hS F0 rc rs Q G cells slots g) (hN : ix.Nodup := by decide) : Goes p l e R s m args below meth c Z a0 M s0 h0 hS F0 rc rs Q H cells slots g := fun T locs S Y N A =>
  k T locs S Y N (A.sub ix hG hN)
theorem Goes.more {cells' slots' : Nat} (h1 : cells ≤ cells') (h2 : slots ≤ slots') {g : JFrame} (k : Goes p l e R s m args below meth c Z a0 M s0 h0 hS F0 rc rs Q H cells' slots' g) : Goes p l e R s m args below meth c Z a0 M s0 h0 hS F0 rc rs Q H cells slots g := fun T locs S Y N A =>
  k T locs S (Y.more h1 h2) N A
/-- two objects at two places of the list lie at two addresses -/
theorem Goes.ne {g : JFrame} (i j : Nat) {x z : Addr × OObj} (hi : H[i]? = some x) (hj : H[j]? = some z) (t : x.2.1 = 0 ∨ z.2.1 = 0) (q : i ≠ j) (k : x.1 ≠ z.1 → Goes p l e R s m args below meth c Z a0 M s0 h0 hS F0 rc rs Q H cells slots g) : Goes p l e R s m args below meth c Z a0 M s0 h0 hS F0 rc rs Q H cells slots g := fun T locs S Y N A =>
  k (A.ne hi hj t q) T locs S Y N A
theorem Goes.new (X : Cx p s m meth c Z y code maxL ret) {C : String} {index n : Nat} (fs : List OFld) (w : (Jvm.Cond.classLink y.cls index C).before a0 Z = true) (wi : (Jvm.Cond.instantiable C n).before a0 Z = true) (wz : (Jvm.Cond.initialized C).before a0 Z = true) (hfs : ∀ f ∈ fs, Laid Z a0 C f.1 f.2.1 f.2.2.1 ∧ ∃ t, parseFieldDescriptor f.2.2.1 = some t ∧ f.2.2.2 = defaultValue t) (k : ∀ a, Goes p l e R s m args below meth c Z a0 M s0 h0 hS F0 rc rs Q (H ++ [(a, ob C fs)]) (cells + 1) (slots + n) (mkF m (pc + 3) Ls (.ref a :: st))) (hd : oAt code pc (.new index, 3) = true := by decide +kernel) (hc : cells + 1 ≤ R.cells := by decide) (hl : slots + n ≤ R.slots := by decide) : Goes p l e R s m args below meth c Z a0 M s0 h0 hS F0 rc rs Q H cells slots (mkF m pc Ls st) := fun T locs S Y N A => by
  obtain ⟨T', h', Y', e', E', X', D', -, st'⟩ := newO Y X.1 X.2.2.2.2.2.2.2 X.2.2.2.1 w wi wz rfl (g := mkF m pc Ls st) rfl (hb X.2.1 (oAt.dec hd)) hc hl
  refine (k T.heap.size T' locs S Y' N ?_).via st'
  rw [e']
  refine A.new E' ⟨X', fun f hf => ?_⟩
  obtain ⟨h1, t, h2, h3⟩ := hfs f hf
  exact ⟨h1, ⟨t, h2⟩, by rw [h3]; exact D' h1 h2⟩
theorem Goes.getF (X : Cx p s m meth c Z y code maxL ret) {R0 : String} {index : Nat} (i j : Nat) {a : Addr} {C : String} {fs : List OFld} {f : OFld} {tg : Nat} (hi : H[i]? = some (a, tg, Sum.inl (C, fs))) (hj : fs[j]? = some f) (w : (Jvm.Cond.fieldLink y.cls index R0 f.2.1 f.2.2.1).before a0 Z = true) (via : Via Z R0 f.1 f.2.1 f.2.2.1) (k : Goes p l e R s m args below meth c Z a0 M s0 h0 hS F0 rc rs Q H cells slots (mkF m (pc + 3) Ls (f.2.2.2 :: st))) (hd : oAt code pc (.getfield index, 3) = true := by decide +kernel) : Goes p l e R s m args below meth c Z a0 M s0 h0 hS F0 rc rs Q H cells slots (mkF m pc Ls (.ref a :: st)) := fun T locs S Y N A => by
  have F := ((A.at hi).2 f (List.mem_of_getElem? hj)).2.2
  obtain ⟨T', Y', e', st'⟩ := RoadKit.getF Y X.1 X.2.2.2.2.2.2.2 (host := "") X.2.2.2.1 (Or.inl w) via rfl F (g := mkF m pc Ls (.ref a :: st)) rfl rfl (hb X.2.1 (oAt.dec hd))
  exact (k T' locs S Y' N (by rw [e']; exact A)).via st'
theorem Goes.getFN (X : Cx p s m meth c Z y code maxL ret) {R0 host : String} {index : Nat} (i j : Nat) {a : Addr} {C : String} {fs : List OFld} {f : OFld} {tg : Nat} (hi : H[i]? = some (a, tg, Sum.inl (C, fs))) (hj : fs[j]? = some f) (w : (Jvm.Cond.fieldLinkNest y.cls index R0 f.2.1 f.2.2.1 host).before a0 Z = true) (via : Via Z R0 f.1 f.2.1 f.2.2.1) (k : Goes p l e R s m args below meth c Z a0 M s0 h0 hS F0 rc rs Q H cells slots (mkF m (pc + 3) Ls (f.2.2.2 :: st))) (hd : oAt code pc (.getfield index, 3) = true := by decide +kernel) : Goes p l e R s m args below meth c Z a0 M s0 h0 hS F0 rc rs Q H cells slots (mkF m pc Ls (.ref a :: st)) := fun T locs S Y N A => by
  have F := ((A.at hi).2 f (List.mem_of_getElem? hj)).2.2
  obtain ⟨T', Y', e', st'⟩ := RoadKit.getF Y X.1 X.2.2.2.2.2.2.2 (host := host) X.2.2.2.1 (Or.inr w) via rfl F (g := mkF m pc Ls (.ref a :: st)) rfl rfl (hb X.2.1 (oAt.dec hd))
  exact (k T' locs S Y' N (by rw [e']; exact A)).via st'
theorem Goes.putF (X : Cx p s m meth c Z y code maxL ret) {R0 : String} {index kk : Nat} (i j : Nat) {a : Addr} {C : String} {fs : List OFld} {f : OFld} {v : Value} {ty : FieldType} (hi : H[i]? = some (a, ob C fs)) (hj : fs[j]? = some f) (w : (Jvm.Cond.fieldLink y.cls index R0 f.2.1 f.2.2.1).before a0 Z = true) (via : Via Z R0 f.1 f.2.1 f.2.2.1) (L : (Jvm.Cond.lays C f.1 f.2.1 f.2.2.1).before a0 Z = true ∨ ((Jvm.Cond.laysFinal C f.1 f.2.1 f.2.2.1).before a0 Z = true ∧ y.cls = f.1 ∧ y.name = "<init>")) (wi : (Jvm.Cond.instantiable C kk).before a0 Z = true) (hn : ∀ i f', fs[i]? = some f' → i ≠ j → f'.2.1 ≠ f.2.1) (hty : parseFieldDescriptor f.2.2.1 = some ty) (hnv : narrow ty v = v) (hf : fits ty v = true) (k : Goes p l e R s m args below meth c Z a0 M s0 h0 hS F0 rc rs Q (H.set i (a, ob C (fs.set j (f.1, f.2.1, f.2.2.1, v)))) cells slots (mkF m (pc + 3) Ls st)) (hd : oAt code pc (.putfield index, 3) = true := by decide +kernel) : Goes p l e R s m args below meth c Z a0 M s0 h0 hS F0 rc rs Q H cells slots (mkF m pc Ls (v :: .ref a :: st)) := fun T locs S Y N A => by
  have O := A.at hi
  have F := (O.2 f (List.mem_of_getElem? hj)).2.2
  obtain ⟨T', h', Y', e', W, st'⟩ := RoadKit.putF Y X.1 X.2.2.2.2.2.2.2 (host := "") X.2.2.2.1 (Or.inl w) via rfl F O.1 (L.imp id fun q => ⟨q.1, q.2.1, X.2.2.2.2.1.trans q.2.2⟩) wi hty hnv hf (g := mkF m pc Ls (v :: .ref a :: st)) rfl rfl (hb X.2.1 (oAt.dec hd))
  refine (k T' _ S Y' (Fr.snoc Y' N ((A.2.2.2.1 i _ hi).2.1 rfl).1) ?_).via st'
  rw [e']
  exact A.wr hi W (OKo.put O hj hn W)
theorem Goes.getS (X : Cx p s m meth c Z y code maxL ret) {R0 O n d : String} {index : Nat} {v : Value} (w : (Jvm.Cond.fieldLink y.cls index R0 n d).before a0 Z = true) (via : Via Z R0 O n d) (F : Sta Z h0 O n d v) (k : Goes p l e R s m args below meth c Z a0 M s0 h0 hS F0 rc rs Q H cells slots (mkF m (pc + 3) Ls (v :: st))) (hd : oAt code pc (.getstatic index, 3) = true := by decide +kernel) : Goes p l e R s m args below meth c Z a0 M s0 h0 hS F0 rc rs Q H cells slots (mkF m pc Ls st) := fun T locs S Y N A => by
  obtain ⟨T', Y', e', st'⟩ := RoadKit.getS Y X.1 X.2.2.2.2.2.2.2 (host := "") X.2.2.2.1 w via rfl (F.ext A.1) (g := mkF m pc Ls st) rfl (hb X.2.1 (oAt.dec hd))
  exact (k T' locs S Y' N (by rw [e']; exact A)).via st'
theorem Goes.initO (X : Cx p s m meth c Z y code maxL ret) {index : Nat} {a : Addr} (W : Nat) (w1 : (Jvm.Cond.methodLink y.cls index Lib.objectInit).before a0 Z = true) (w2 : (Jvm.Cond.instanceMethod Lib.objectInit).before a0 Z = true) (w3 : (Jvm.Cond.code Lib.objectInit ⟨#[0xb1]⟩ 1 none).before a0 Z = true) (hsize : Ls.size = maxL) (k : Goes p l e R s m args below meth c Z a0 M s0 h0 hS F0 rc rs Q H cells slots (mkF m (pc + 3) Ls st)) (hd : oAt code pc (.invokespecial index, 3) = true := by decide +kernel) (hf : 1 ≤ R.frames := by decide) (hW : (st.map fun v => v.category).sum = W := by rfl) (hl : W + 12 ≤ R.locals := by decide) : Goes p l e R s m args below meth c Z a0 M s0 h0 hS F0 rc rs Q H cells slots (mkF m pc Ls (.ref a :: st)) := fun T locs S Y N A => by
  subst hW
  obtain ⟨T', Y', e', st'⟩ := RoadKit.initO Y X.1 X.2.2.2.2.2.2.2 X.2.2.2.1 w1 w2 w3 rfl (g := mkF m pc Ls (.ref a :: st)) rfl (hsize.trans X.2.2.1.symm) rfl (hb X.2.1 (oAt.dec hd)) hf (W := (st.map fun v => v.category).sum) (by show 2 * 0 + _ ≤ _; omega) hl
  exact (k T' locs S Y' N (by rw [e']; exact A)).via st'
/-- the return -/
theorem Goes.fin {v : Option Value} {g : JFrame} (X : Cx p s m meth c Z y code maxL ret) (hv : ret = none → v = none) (hQ : Q v H) (hc : cells ≤ rc) (hs : slots ≤ rs)
    (hst : ∀ (T : State) (locs : List Loc) (fs : List Frame), Stand p l e R s m args below meth c T locs cells slots → (∀ (f : JFrame) (acts : List Action), f.method = m → f.locked = none → f.entered = [] → (doReturn e (T.setTop f) acts v).1 = T.setFrames fs) → Steps p.tables e below (T.setTop g) (T.setFrames fs)) :
    Goes p l e R s m args below meth c Z a0 M s0 h0 hS F0 rc rs Q H cells slots g := fun T locs S Y N A => by
  rcases M with _ | ⟨EL, vmS, vm0, k0⟩
  · obtain rfl : s = s0 := S
    obtain ⟨fs, hr, hrun, hended, hW, hsame⟩ := Y.leave (v := v) (fun q => hv (X.2.2.2.2.2.1.symm.trans q)) X.2.2.2.2.2.2.1
    exact ⟨_, _, hst T locs fs Y hr, hrun, hended, v, locs, rfl, N, ⟨H, hQ, A⟩, ⟨_, rfl⟩, hW, hsame.mono hc hs⟩
  · obtain ⟨rfl, hS'⟩ := S
    obtain ⟨fs, hr, hrun, hended, e1, e2, e3, e4⟩ := Y.leaveW hS' A.2.2.1.2.2.2 (v := v) (fun q => hv (X.2.2.2.2.2.1.symm.trans q)) X.2.2.2.2.2.2.1
    exact ⟨_, _, hst T locs fs Y hr, hrun, hended, v, locs, rfl, N, ⟨H, k0, hQ, Hp.atVm (T := T) Y A⟩, e1, e2, e3, e4.mono hc hs⟩
theorem Goes.retV (X : Cx p s m meth c Z y code maxL none) (hQ : Q none H) (hd : oAt code pc (.return_, 1) = true := by decide +kernel) (hc : cells ≤ rc := by decide) (hs : slots ≤ rs := by decide) : Goes p l e R s m args below meth c Z a0 M s0 h0 hS F0 rc rs Q H cells slots (mkF m pc Ls []) :=
  Goes.fin X (fun _ => rfl) hQ hc hs fun T locs fs Y hr => Y.returnOut X.1 X.2.2.2.2.2.1 (hb X.2.1 (oAt.dec hd)) hr
theorem Goes.retI {z : Int32} {t : FieldType} (X : Cx p s m meth c Z y code maxL (some t)) (ht : t = .int ∨ t = .boolean ∨ t = .byte ∨ t = .char ∨ t = .short) (hn : narrow t (.int z) = .int z) (hQ : Q (some (.int z)) H) (hd : oAt code pc (.ireturn, 1) = true := by decide +kernel) (hc : cells ≤ rc := by decide) (hs : slots ≤ rs := by decide) : Goes p l e R s m args below meth c Z a0 M s0 h0 hS F0 rc rs Q H cells slots (mkF m pc Ls (.int z :: st)) :=
  Goes.fin X (fun q => by cases q) hQ hc hs fun T locs fs Y hr => retOut Y X.1 X.2.2.2.2.2.1 hn (Or.inl ⟨rfl, ht, z, rfl⟩) (hb X.2.1 (oAt.dec hd)) hr
theorem Goes.retJ {z : Int64} (X : Cx p s m meth c Z y code maxL (some .long)) (hQ : Q (some (.long z)) H) (hd : oAt code pc (.lreturn, 1) = true := by decide +kernel) (hc : cells ≤ rc := by decide) (hs : slots ≤ rs := by decide) : Goes p l e R s m args below meth c Z a0 M s0 h0 hS F0 rc rs Q H cells slots (mkF m pc Ls (.long z :: st)) :=
  Goes.fin X (fun q => by cases q) hQ hc hs fun T locs fs Y hr => retOut Y X.1 X.2.2.2.2.2.1 rfl (Or.inr (Or.inl ⟨rfl, rfl, z, rfl⟩)) (hb X.2.1 (oAt.dec hd)) hr
theorem Goes.retA {v : Value} {t : FieldType} (X : Cx p s m meth c Z y code maxL (some t)) (ht : t.isReference = true) (hv : v.isRef = true) (hn : narrow t v = v) (hQ : Q (some v) H) (hd : oAt code pc (.areturn, 1) = true := by decide +kernel) (hc : cells ≤ rc := by decide) (hs : slots ≤ rs := by decide) : Goes p l e R s m args below meth c Z a0 M s0 h0 hS F0 rc rs Q H cells slots (mkF m pc Ls (v :: st)) :=
  Goes.fin X (fun q => by cases q) hQ hc hs fun T locs fs Y hr => retOut Y X.1 X.2.2.2.2.2.1 hn (Or.inr (Or.inr (Or.inr (Or.inr ⟨rfl, ht, hv⟩)))) (hb X.2.1 (oAt.dec hd)) hr
/-- a static call -/
theorem Goes.callS (X : Cx p s m meth c Z y code maxL ret) {index : Nat} {y' : MethodName} {code' : ByteArray} {maxL' : Nat} {ret' : Option FieldType} {rm : Room} {argsL : List Value} {F G : OHp} {Q' : Option Value → OHp → Prop} (W : Nat) (ix rx : List Nat) (D : Does l Z a0 h0 y' code' maxL' ret' rm argsL.toArray F Q') (w1 : (Jvm.Cond.methodLink y.cls index y').before a0 Z = true) (w2 : (Jvm.Cond.static y').before a0 Z = true) (w3 : (Jvm.Cond.initialized y'.cls).before a0 Z = true) (w4 : (Jvm.Cond.code y' code' maxL' ret').before a0 Z = true) {ps : List FieldType} {r : Option FieldType} (hpd : parseMethodDescriptor y'.desc = some ⟨ps, r⟩) (hlen : argsL.length = ps.length) {stk : List Value} (hstk : stk = argsL.reverse ++ st) (hsize : Ls.size = maxL) (hF : ix.map (fun i => H[i]?) = F.map some) (hG : rx.map (fun i => H[i]?) = G.map some) (k : ∀ v F', Q' v F' → own_tg F F' G ∧ Goes p l e R s m args below meth c Z a0 M s0 h0 hS F0 rc rs Q (F' ++ G) (cells + rm.cells) (slots + rm.slots) (mkF m (pc + 3) Ls (v.toList ++ st))) (hy : y'.cls ≠ "java/lang/invoke/MethodHandle" ∧ y'.cls ≠ "java/lang/invoke/VarHandle" := by decide) (hN : (ix ++ rx).Nodup := by decide) (hd : oAt code pc (.invokestatic index, 3) = true := by decide +kernel) (hfr : rm.frames + 1 ≤ R.frames := by decide) (hW : (st.map fun v => v.category).sum = W := by rfl) (hlo : W + (maxL' + 11) + rm.locals ≤ R.locals := by decide) (hce : cells + rm.cells ≤ R.cells := by decide) (hsl : slots + rm.slots ≤ R.slots := by decide) : Goes p l e R s m args below meth c Z a0 M s0 h0 hS F0 rc rs Q H cells slots (mkF m pc Ls stk) := fun T locs S Y N A => by
  subst hstk hW
  have NN := List.nodup_append.mp hN
  obtain ⟨v, vm1, ⟨T', L', k', n'⟩, -, Y', ⟨Lc, ⟨N', F', hQ', B⟩, l', k'', n''⟩, st'⟩ := Jvm.LawKit.callS Y X.1 (y := y') X.2.2.2.1 (mvT X.2.2.2.2.2.2.2 w1) (mvT X.2.2.2.2.2.2.2 w2) (mvT X.2.2.2.2.2.2.2 w3) (mvT X.2.2.2.2.2.2.2 w4) hy
    (backOf (W := (st.map fun v => v.category).sum) (Q := fun v h' L => Fr h0.size L ∧ ∃ F', Q' v F' ∧ Hp Z a0 none h0 T.heap F h' F') (D [] T.heap ((A.sub ix hF NN.1).enter)) X.2.2.2.2.2.2.2 w4 w3 hfr hlo) (g := mkF m pc Ls (argsL.reverse ++ st)) rfl (hsize.trans X.2.2.1.symm) (argsL := argsL) (rest := st) (lenOf hpd hlen) rfl (by show 2 * 0 + _ ≤ _; omega) (hb X.2.1 (oAt.dec hd)) (fun _ _ => ⟨rfl, rfl, hce, hsl⟩)
  dsimp only [Pt.U, Pt.locs, Pt.cells, Pt.slots] at Y' l' k'' n'' st' B
  subst l' k'' n''
  exact ((k v F' hQ').2 T' _ S Y' (N.app N') (A.back hF hG hN B (k v F' hQ').1)).via st'
/-- a constructor's call -/
theorem Goes.callN (X : Cx p s m meth c Z y code maxL ret) {index : Nat} {y' : MethodName} {code' : ByteArray} {maxL' : Nat} {rm : Room} {argsL : List Value} {a : Addr} {F G : OHp} {Q' : Option Value → OHp → Prop} (W : Nat) (ix rx : List Nat) (D : Does l Z a0 h0 y' code' maxL' none rm (.ref a :: argsL).toArray F Q') (hy1 : y'.name = "<init>") (w1 : (Jvm.Cond.methodLink y.cls index y').before a0 Z = true) (w2 : (Jvm.Cond.instanceMethod y').before a0 Z = true) (w3 : (Jvm.Cond.initialized y'.cls).before a0 Z = true) (w4 : (Jvm.Cond.code y' code' maxL' none).before a0 Z = true) {ps : List FieldType} {r : Option FieldType} (hpd : parseMethodDescriptor y'.desc = some ⟨ps, r⟩) (hlen : argsL.length = ps.length) {stk : List Value} (hstk : stk = argsL.reverse ++ .ref a :: st) (hsize : Ls.size = maxL) (hF : ix.map (fun i => H[i]?) = F.map some) (hG : rx.map (fun i => H[i]?) = G.map some) (k : ∀ v F', Q' v F' → own_tg F F' G ∧ Goes p l e R s m args below meth c Z a0 M s0 h0 hS F0 rc rs Q (F' ++ G) (cells + rm.cells) (slots + rm.slots) (mkF m (pc + 3) Ls (v.toList ++ st))) (hy : y'.cls ≠ "java/lang/invoke/MethodHandle" ∧ y'.cls ≠ "java/lang/invoke/VarHandle" := by decide) (hN : (ix ++ rx).Nodup := by decide) (hd : oAt code pc (.invokespecial index, 3) = true := by decide +kernel) (hfr : rm.frames + 1 ≤ R.frames := by decide) (hW : (st.map fun v => v.category).sum = W := by rfl) (hlo : W + (maxL' + 11) + rm.locals ≤ R.locals := by decide) (hce : cells + rm.cells ≤ R.cells := by decide) (hsl : slots + rm.slots ≤ R.slots := by decide) : Goes p l e R s m args below meth c Z a0 M s0 h0 hS F0 rc rs Q H cells slots (mkF m pc Ls stk) := fun T locs S Y N A => by
  subst hstk hW
  have NN := List.nodup_append.mp hN
  obtain ⟨v, vm1, ⟨T', L', k', n'⟩, -, Y', ⟨Lc, ⟨N', F', hQ', B⟩, l', k'', n''⟩, st'⟩ := Y.specialBack X.1 (y := y') hy1 X.2.2.2.1 (mvT X.2.2.2.2.2.2.2 w1) (mvT X.2.2.2.2.2.2.2 w2) (mvT X.2.2.2.2.2.2.2 w4) hy
    (backOf (W := (st.map fun v => v.category).sum) (Q := fun v h' L => Fr h0.size L ∧ ∃ F', Q' v F' ∧ Hp Z a0 none h0 T.heap F h' F') (D [] T.heap ((A.sub ix hF NN.1).enter)) X.2.2.2.2.2.2.2 w4 w3 hfr hlo) (g := mkF m pc Ls (argsL.reverse ++ .ref a :: st)) rfl (hsize.trans X.2.2.1.symm) (Steps.refl _) (a := a) (argsL := argsL) (rest := st) (lenOf hpd hlen) rfl (by show 2 * 0 + _ ≤ _; omega) (hb X.2.1 (oAt.dec hd)) (fun _ _ => ⟨rfl, rfl, hce, hsl⟩)
  dsimp only [Pt.U, Pt.locs, Pt.cells, Pt.slots] at Y' l' k'' n'' st' B
  subst l' k'' n''
  exact ((k v F' hQ').2 T' _ S Y' (N.app N') (A.back hF hG hN B (k v F' hQ').1)).via fun t q => st'.trans q
/-- a virtual call on an object of the list -/
theorem Goes.callV (X : Cx p s m meth c Z y code maxL ret) {index : Nat} {y' z' : MethodName} {code' : ByteArray} {maxL' : Nat} {ret' : Option FieldType} {rm : Room} {argsL : List Value} {a : Addr} {C : String} {F G : OHp} {Q' : Option Value → OHp → Prop} (W : Nat) (i : Nat) (ix rx : List Nat) {fs : List OFld} {tg : Nat} (hi : H[i]? = some (a, tg, Sum.inl (C, fs))) (D : Does l Z a0 h0 z' code' maxL' ret' rm (.ref a :: argsL).toArray F Q') (w1 : (Jvm.Cond.methodLink y.cls index y').before a0 Z = true) (w2 : (Jvm.Cond.declares y').before a0 Z = true) (w5 : (Jvm.Cond.selects C y' z').before a0 Z = true) (w6 : (Jvm.Cond.instanceMethod z').before a0 Z = true) (nf : NotFace s y') (w3 : (Jvm.Cond.initialized z'.cls).before a0 Z = true) (w4 : (Jvm.Cond.code z' code' maxL' ret').before a0 Z = true) {ps : List FieldType} {r : Option FieldType} (hpd : parseMethodDescriptor y'.desc = some ⟨ps, r⟩) (hlen : argsL.length = ps.length) {stk : List Value} (hstk : stk = argsL.reverse ++ .ref a :: st) (hsize : Ls.size = maxL) (hF : ix.map (fun i => H[i]?) = F.map some) (hG : rx.map (fun i => H[i]?) = G.map some) (k : ∀ v F', Q' v F' → own_tg F F' G ∧ Goes p l e R s m args below meth c Z a0 M s0 h0 hS F0 rc rs Q (F' ++ G) (cells + rm.cells) (slots + rm.slots) (mkF m (pc + 3) Ls (v.toList ++ st))) (hy : y'.cls ≠ "java/lang/invoke/MethodHandle" ∧ y'.cls ≠ "java/lang/invoke/VarHandle" := by decide) (hN : (ix ++ rx).Nodup := by decide) (hd : oAt code pc (.invokevirtual index, 3) = true := by decide +kernel) (hfr : rm.frames + 1 ≤ R.frames := by decide) (hW : (st.map fun v => v.category).sum = W := by rfl) (hlo : W + (maxL' + 11) + rm.locals ≤ R.locals := by decide) (hce : cells + rm.cells ≤ R.cells := by decide) (hsl : slots + rm.slots ≤ R.slots := by decide) : Goes p l e R s m args below meth c Z a0 M s0 h0 hS F0 rc rs Q H cells slots (mkF m pc Ls stk) := fun T locs S Y N A => by
  subst hstk hW
  have NN := List.nodup_append.mp hN
  obtain ⟨cq, kq, qa, qb, qc⟩ := isOf (T := T) X.2.2.2.2.2.2.2 rfl (A.at hi).1
  obtain ⟨v, vm1, ⟨T', L', k', n'⟩, -, Y', ⟨Lc, ⟨N', F', hQ', B⟩, l', k'', n''⟩, st'⟩ := Y.virtualBack X.1 (y := y') (z := z') X.2.2.2.1 (mvT X.2.2.2.2.2.2.2 w1) (mvT X.2.2.2.2.2.2.2 w2) nf (mvT X.2.2.2.2.2.2.2 w5) (mvT X.2.2.2.2.2.2.2 w6) hy
    (backOf (W := (st.map fun v => v.category).sum) (Q := fun v h' L => Fr h0.size L ∧ ∃ F', Q' v F' ∧ Hp Z a0 none h0 T.heap F h' F') (D [] T.heap ((A.sub ix hF NN.1).enter)) X.2.2.2.2.2.2.2 w4 w3 hfr hlo) qa qc (g := mkF m pc Ls (argsL.reverse ++ .ref a :: st)) rfl (hsize.trans X.2.2.1.symm) (Steps.refl _) (argsL := argsL) (rest := st) (lenOf hpd hlen) rfl (by show 2 * 0 + _ ≤ _; omega) (hb X.2.1 (oAt.dec hd)) (fun _ _ => ⟨rfl, rfl, hce, hsl⟩)
  dsimp only [Pt.U, Pt.locs, Pt.cells, Pt.slots] at Y' l' k'' n'' st' B
  subst l' k'' n''
  exact ((k v F' hQ').2 T' _ S Y' (N.app N') (A.back hF hG hN B (k v F' hQ').1)).via fun t q => st'.trans q
theorem own_nf (X : Cx p s m meth c Z y code maxL ret) {C : String} {y' : MethodName} (w5 : (Jvm.Cond.selects C y' y').before a0 Z = true) : NotFace s y' := notFace_of_selects (args := #[]) (mvT X.2.2.2.2.2.2.2 w5)
end Goes
/-! ## own kit, part 4: arrays; objects that stood at the start -/
section Arrs
variable {p : Program} {l : Launch} {e : Env} {R : Room} {s : State} {m : MethodId} {args : Array Value} {below : List Frame} {meth : Method} {c : Code} {Z : State} {a0 : Array Value} {h0 hS : Heap} {M : OMode} {s0 : State} {F0 : OHp} {rc rs : Nat} {Q : Option Value → OHp → Prop} {H : OHp} {cells slots : Nat} {y : MethodName} {code : ByteArray} {maxL : Nat} {ret : Option FieldType} {pc : Nat} {Ls : Array Slot} {st : List Value}
theorem Goes.newarr (X : Cx p s m meth c Z y code maxL ret) {aty : ArrayType} {n : Int32} (D : String) (nn cap : Nat) (w : (Jvm.Cond.arrayClass (newarray.typeOf aty)).before a0 Z = true) (hD : "[" ++ (newarray.typeOf aty).toString = D) (hn : ¬ n < 0) (hnn : n.toNatClampNeg = nn) (k : ∀ a, Goes p l e R s m args below meth c Z a0 M s0 h0 hS F0 rc rs Q (H ++ [(a, ar D (newarray.typeOf aty) (List.replicate nn (defaultValue (newarray.typeOf aty))))]) (cells + 1) (slots + cap) (mkF m (pc + 2) Ls (.ref a :: st))) (hd : oAt code pc (.newarray aty, 2) = true := by decide +kernel) (hcap : nn ≤ cap := by decide) (hb8 : cap * 8 ≤ 536870912 := by decide) (hc : cells + 1 ≤ R.cells := by decide) (hl : slots + cap ≤ R.slots := by decide) : Goes p l e R s m args below meth c Z a0 M s0 h0 hS F0 rc rs Q H cells slots (mkF m pc Ls (.int n :: st)) := fun T locs S Y N A => by
  have hZ := X.2.2.2.2.2.2.2
  have hcb : componentBytes (newarray.typeOf aty) ≤ 8 := by cases aty <;> decide
  subst hnn hD
  obtain ⟨cA, kA, comp, h1, h2, h3, Y', st'⟩ := Y.newarrayPrim X.1 (mvA hZ w) (g := mkF m pc Ls (.int n :: st)) rfl (hb X.2.1 (oAt.dec hd)) rfl hn (Nat.le_trans (Nat.mul_le_mul hcap hcb) hb8) hc (by omega)
  rw [hZ.alike.findClass] at h1
  obtain ⟨kZ, z1, -⟩ := Vm.findClass_spec h1
  obtain ⟨k', z2, z3⟩ := hZ.alike.2.2 _ _ z1
  cases h2.symm.trans z2
  refine (k T.heap.size _ locs S (Y'.more (Nat.le_refl _) (by omega)) N ?_).via st'
  refine A.new (ext_of fun a q => Array.getElem?_push_lt q |>.trans (Array.getElem?_eq_getElem q).symm) ?_
  refine ⟨newA cA (newarray.typeOf aty) n, ⟨?_, ⟨by simp [newA], kZ, z1, comp, by rw [← h3, z3]⟩, by simp [newA]⟩, ?_, ?_, Or.inr h1, ?_⟩
  · show (T.heap.push _)[T.heap.size]? = _; simp [newA]
  · simp [newA]
  · rw [List.length_replicate]; exact (back32 hn).2
  · intro v hv
    rw [List.eq_of_mem_replicate hv]
    cases aty <;> rfl
theorem Goes.anewarr (X : Cx p s m meth c Z y code maxL ret) {C : String} {index : Nat} {n : Int32} (D : String) (nn cap : Nat) (w : (Jvm.Cond.classLink y.cls index C).before a0 Z = true) (w2 : (Jvm.Cond.arrayOver (.object C)).before a0 Z = true) (hD : "[" ++ (FieldType.object C).toString = D) (hn : ¬ n < 0) (hnn : n.toNatClampNeg = nn) (k : ∀ a, Goes p l e R s m args below meth c Z a0 M s0 h0 hS F0 rc rs Q (H ++ [(a, ar D (.object C) (List.replicate nn .null))]) (cells + 1) (slots + cap) (mkF m (pc + 3) Ls (.ref a :: st))) (hd : oAt code pc (.anewarray index, 3) = true := by decide +kernel) (hcap : nn ≤ cap := by decide) (hb8 : cap * 8 ≤ 536870912 := by decide) (hc : cells + 1 ≤ R.cells := by decide) (hl : slots + cap ≤ R.slots := by decide) : Goes p l e R s m args below meth c Z a0 M s0 h0 hS F0 rc rs Q H cells slots (mkF m pc Ls (.int n :: st)) := fun T locs S Y N A => by
  have hZ := X.2.2.2.2.2.2.2
  subst hnn hD
  have w2' : (Jvm.Cond.arrayOver (.object C)).before args s = true := Cond.arrayOver_alike hZ.alike w2
  obtain ⟨vm₁, cA, kA, comp, -, h1, h2, h3, h4, Y', st'⟩ := Y.anewarrayRefK X.1 X.2.2.2.1 (mv hZ w) w2' (g := mkF m pc Ls (.int n :: st)) rfl (hb X.2.1 (oAt.dec hd)) rfl hn (by omega) hc (by omega)
  rw [hZ.alike.findClass] at h1
  obtain ⟨kZ, z1, -⟩ := Vm.findClass_spec h1
  obtain ⟨k', z2, z3⟩ := hZ.alike.2.2 _ _ z1
  cases h2.symm.trans z2
  refine (k T.heap.size _ locs S (Y'.more (Nat.le_refl _) (by omega)) N ?_).via st'
  refine A.new (ext_of fun a q => Array.getElem?_push_lt q |>.trans (Array.getElem?_eq_getElem q).symm) ?_
  refine ⟨newA cA (.object C) n, ⟨?_, ⟨by simp [newA], kZ, z1, comp, by rw [← h3, z3]⟩, by simp [newA]⟩, ?_, ?_, Or.inr h1, ?_⟩
  · show (T.heap.push _)[T.heap.size]? = _; simp [newA, defaultValue]
  · simp [newA, defaultValue]
  · rw [List.length_replicate]; exact (back32 hn).2
  · intro v hv
    rw [List.eq_of_mem_replicate hv]; rfl
theorem own_inb {cl : Cell} {vs : List Value} {j : Int32} {jn : Nat} (hs : cl.slots = vs.toArray) (hj : j.toNatClampNeg = jn) (h0 : ¬ j < 0) (hlt : jn < vs.length) : ¬ (j < 0 ∨ cl.slots.size ≤ j.toNatClampNeg) := by
  subst hj; rw [hs]; simp only [List.size_toArray]; rintro (q | q)
  · exact h0 q
  · omega
theorem own_get {cl : Cell} {vs : List Value} {j : Int32} {jn : Nat} {v : Value} (hs : cl.slots = vs.toArray) (hj : j.toNatClampNeg = jn) (hv : vs[jn]? = some v) : cl.slots[j.toNatClampNeg]? = some v := by
  rw [hs, hj]; simpa using hv
theorem Goes.alen (X : Cx p s m meth c Z y code maxL ret) (i : Nat) {a : Addr} {D : String} {ty : FieldType} {vs : List Value} {n : Int32} {tg : Nat} (hi : H[i]? = some (a, tg, Sum.inr (D, ty, vs))) (hn : vs.length.toInt32 = n) (k : Goes p l e R s m args below meth c Z a0 M s0 h0 hS F0 rc rs Q H cells slots (mkF m (pc + 1) Ls (.int n :: st))) (hd : oAt code pc (.arraylength, 1) = true := by decide +kernel) : Goes p l e R s m args below meth c Z a0 M s0 h0 hS F0 rc rs Q H cells slots (mkF m pc Ls (.ref a :: st)) := fun T locs S Y N A => by
  obtain ⟨cl, O, hs, -⟩ := A.at hi
  refine (k T locs S Y N A).via fun t q => Y.arraylength X.1 O.1 (State.isArrayOf_alike X.2.2.2.2.2.2.2.alike O.2.1) (g := mkF m pc Ls (.ref a :: st)) rfl rfl (hb X.2.1 (oAt.dec hd)) t ?_
  rw [hs, List.size_toArray, hn]; exact q
theorem Goes.caload (X : Cx p s m meth c Z y code maxL ret) (i jn : Nat) {a : Addr} {D : String} {vs : List Value} {j : Int32} {v : Value} {tg : Nat} (hi : H[i]? = some (a, tg, Sum.inr (D, .char, vs))) (hj : j.toNatClampNeg = jn) (hj0 : ¬ j < 0) (hv : vs[jn]? = some v) (k : Goes p l e R s m args below meth c Z a0 M s0 h0 hS F0 rc rs Q H cells slots (mkF m (pc + 1) Ls (v :: st))) (hd : oAt code pc (.caload, 1) = true := by decide +kernel) : Goes p l e R s m args below meth c Z a0 M s0 h0 hS F0 rc rs Q H cells slots (mkF m pc Ls (.int j :: .ref a :: st)) := fun T locs S Y N A => by
  obtain ⟨cl, O, hs, -⟩ := A.at hi
  exact (k T locs S Y N A).via fun t q => Y.caload X.1 O.1 (State.isArrayOf_alike X.2.2.2.2.2.2.2.alike O.2.1) O.2.2 (own_inb hs hj hj0 (List.getElem?_eq_some_iff.mp hv).1) (own_get hs hj hv) (g := mkF m pc Ls (.int j :: .ref a :: st)) rfl rfl (hb X.2.1 (oAt.dec hd)) t q
theorem Goes.baload (X : Cx p s m meth c Z y code maxL ret) (i jn : Nat) {a : Addr} {D : String} {vs : List Value} {j : Int32} {v : Value} {tg : Nat} (hi : H[i]? = some (a, tg, Sum.inr (D, .byte, vs))) (hj : j.toNatClampNeg = jn) (hj0 : ¬ j < 0) (hv : vs[jn]? = some v) (k : Goes p l e R s m args below meth c Z a0 M s0 h0 hS F0 rc rs Q H cells slots (mkF m (pc + 1) Ls (v :: st))) (hd : oAt code pc (.baload, 1) = true := by decide +kernel) : Goes p l e R s m args below meth c Z a0 M s0 h0 hS F0 rc rs Q H cells slots (mkF m pc Ls (.int j :: .ref a :: st)) := fun T locs S Y N A => by
  obtain ⟨cl, O, hs, -⟩ := A.at hi
  exact (k T locs S Y N A).via fun t q => Y.baloadBytes X.1 O.1 (State.isArrayOf_alike X.2.2.2.2.2.2.2.alike O.2.1) O.2.2 (own_inb hs hj hj0 (List.getElem?_eq_some_iff.mp hv).1) (own_get hs hj hv) (g := mkF m pc Ls (.int j :: .ref a :: st)) rfl rfl (hb X.2.1 (oAt.dec hd)) t q
theorem Goes.aaload (X : Cx p s m meth c Z y code maxL ret) (i jn : Nat) {a : Addr} {D : String} {ty : FieldType} {vs : List Value} {j : Int32} {v : Value} {tg : Nat} (hi : H[i]? = some (a, tg, Sum.inr (D, ty, vs))) (hty : ty.isReference = true) (hj : j.toNatClampNeg = jn) (hj0 : ¬ j < 0) (hv : vs[jn]? = some v) (k : Goes p l e R s m args below meth c Z a0 M s0 h0 hS F0 rc rs Q H cells slots (mkF m (pc + 1) Ls (v :: st))) (hd : oAt code pc (.aaload, 1) = true := by decide +kernel) : Goes p l e R s m args below meth c Z a0 M s0 h0 hS F0 rc rs Q H cells slots (mkF m pc Ls (.int j :: .ref a :: st)) := fun T locs S Y N A => by
  obtain ⟨cl, O, hs, -⟩ := A.at hi
  exact (k T locs S Y N A).via fun t q => Y.aaload X.1 O.1 (State.isArrayOf_alike X.2.2.2.2.2.2.2.alike O.2.1) hty O.2.2 (own_inb hs hj hj0 (List.getElem?_eq_some_iff.mp hv).1) (own_get hs hj hv) (g := mkF m pc Ls (.int j :: .ref a :: st)) rfl rfl (hb X.2.1 (oAt.dec hd)) t q
theorem Goes.castore (X : Cx p s m meth c Z y code maxL ret) (i jn : Nat) {a : Addr} {D : String} {vs : List Value} {j x : Int32} (hi : H[i]? = some (a, ar D .char vs)) (hj : j.toNatClampNeg = jn) (hj0 : ¬ j < 0) (hlt : jn < vs.length) (k : Goes p l e R s m args below meth c Z a0 M s0 h0 hS F0 rc rs Q (H.set i (a, ar D .char (vs.set jn (.int (nar .char x))))) cells slots (mkF m (pc + 1) Ls st)) (hd : oAt code pc (.castore, 1) = true := by decide +kernel) : Goes p l e R s m args below meth c Z a0 M s0 h0 hS F0 rc rs Q H cells slots (mkF m pc Ls (.int x :: .int j :: .ref a :: st)) := fun T locs S Y N A => by
  have O := A.at hi
  obtain ⟨cl, O1, hs, -⟩ := A.at hi
  subst hj
  obtain ⟨T', h', Y', e', W, st'⟩ := stC Y X.1 X.2.2.2.2.2.2.2 rfl O1 (own_inb hs rfl hj0 hlt) (g := mkF m pc Ls (.int x :: .int j :: .ref a :: st)) rfl rfl (hb X.2.1 (oAt.dec hd))
  refine (k T' _ S Y' (Fr.snoc Y' N ((A.2.2.2.1 i _ hi).2.1 rfl).1) ?_).via st'
  rw [e']
  exact A.wr hi W (OKa.store O W (fits_nar_char x))
theorem Goes.bastore (X : Cx p s m meth c Z y code maxL ret) (i jn : Nat) {a : Addr} {D : String} {vs : List Value} {j x : Int32} (hi : H[i]? = some (a, ar D .byte vs)) (hj : j.toNatClampNeg = jn) (hj0 : ¬ j < 0) (hlt : jn < vs.length) (k : Goes p l e R s m args below meth c Z a0 M s0 h0 hS F0 rc rs Q (H.set i (a, ar D .byte (vs.set jn (.int (nar .byte x))))) cells slots (mkF m (pc + 1) Ls st)) (hd : oAt code pc (.bastore, 1) = true := by decide +kernel) : Goes p l e R s m args below meth c Z a0 M s0 h0 hS F0 rc rs Q H cells slots (mkF m pc Ls (.int x :: .int j :: .ref a :: st)) := fun T locs S Y N A => by
  have O := A.at hi
  obtain ⟨cl, O1, hs, -⟩ := A.at hi
  subst hj
  obtain ⟨T', h', Y', e', W, st'⟩ := stB Y X.1 X.2.2.2.2.2.2.2 rfl O1 (own_inb hs rfl hj0 hlt) (g := mkF m pc Ls (.int x :: .int j :: .ref a :: st)) rfl rfl (hb X.2.1 (oAt.dec hd))
  refine (k T' _ S Y' (Fr.snoc Y' N ((A.2.2.2.1 i _ hi).2.1 rfl).1) ?_).via st'
  rw [e']
  exact A.wr hi W (OKa.store O W (fits_nar_byte x))
theorem own_fitC {h : Heap} {a : Addr} {cl : Cell} {ty : FieldType} {vs : List Value} (O : Arr Z h a cl ty) (hs : cl.slots = vs.toArray) (hv : ∀ v ∈ vs, fits ty v = true) : FitC Z cl := fun i v q => by
  obtain ⟨-, k, hk, comp, hkind⟩ := O.2.1
  rw [hs] at q
  have q2 : v ∈ vs := List.mem_of_getElem? (by simpa using q)
  simp [State.fitsSlot, State.slotType?, hk, hkind, hv v q2]
theorem Goes.clone (X : Cx p s m meth c Z y code maxL ret) {index : Nat} (W : Nat) (i : Nat) (cap : Nat) {a : Addr} {D : String} {ty : FieldType} {vs : List Value} (w1 : (Jvm.Cond.methodLink y.cls index ⟨D, "clone", "()Ljava/lang/Object;"⟩).before a0 Z = true) (w2 : (Jvm.Cond.sameMethod D "java/lang/Object" "clone" "()Ljava/lang/Object;").before a0 Z = true) (w3 : (Jvm.Cond.native ⟨"java/lang/Object", "clone", "()Ljava/lang/Object;"⟩).before a0 Z = true) (w4 : (Jvm.Cond.instanceMethod ⟨"java/lang/Object", "clone", "()Ljava/lang/Object;"⟩).before a0 Z = true) (w5 : (Jvm.Cond.selects D ⟨D, "clone", "()Ljava/lang/Object;"⟩ ⟨"java/lang/Object", "clone", "()Ljava/lang/Object;"⟩).before a0 Z = true) (w6 : (Jvm.Cond.castable D "java/lang/Cloneable").before a0 Z = true) {tg : Nat} (hi : H[i]? = some (a, tg, Sum.inr (D, ty, vs))) (hsize : Ls.size = maxL) (k : ∀ b, Goes p l e R s m args below meth c Z a0 M s0 h0 hS F0 rc rs Q (H ++ [(b, ar D ty vs)]) (cells + 1) (slots + cap) (mkF m (pc + 3) Ls (.ref b :: st))) (hDn : D ≠ "" := by decide) (hd : oAt code pc (.invokevirtual index, 3) = true := by decide +kernel) (hf : 1 ≤ R.frames := by decide) (hW : (st.map fun v => v.category).sum = W := by rfl) (hl : W + 14 ≤ R.locals := by decide) (hcap : vs.length ≤ cap := by decide) (hc : cells + 1 ≤ R.cells := by decide) (hsl : slots + cap ≤ R.slots := by decide) : Goes p l e R s m args below meth c Z a0 M s0 h0 hS F0 rc rs Q H cells slots (mkF m pc Ls (.ref a :: st)) := fun T locs S Y N A => by
  have E := (A.at hi : OKa Z T.heap a D ty vs).exa hDn
  obtain ⟨cl, O1, hs, hlen, hfc, hv⟩ := A.at hi
  subst hW
  obtain ⟨T', h', Y', e', E', A', X', st'⟩ := cloneA Y X.1 X.2.2.2.2.2.2.2 X.2.2.2.1 w1 w2 w3 w4 w5 w6 rfl O1 E (own_fitC O1 hs hv) (g := mkF m pc Ls (.ref a :: st)) rfl (hsize.trans X.2.2.1.symm) rfl (hb X.2.1 (oAt.dec hd)) hf (W := (st.map fun v => v.category).sum) (cap := cap) (by show 2 * 0 + _ ≤ _; omega) hl (by rw [hs, List.size_toArray]; exact hcap) hc hsl
  refine (k T.heap.size T' locs S Y' N ?_).via st'
  rw [e']
  exact A.new E' ⟨_, A', hs, hlen, hfc, hv⟩
theorem Goes.castA (X : Cx p s m meth c Z y code maxL ret) {K : String} {index : Nat} (i : Nat) {a : Addr} {D : String} {ty : FieldType} {vs : List Value} (w : (Jvm.Cond.classLink y.cls index K).before a0 Z = true) (wc : (Jvm.Cond.castable D K).before a0 Z = true) {tg : Nat} (hi : H[i]? = some (a, tg, Sum.inr (D, ty, vs))) (k : Goes p l e R s m args below meth c Z a0 M s0 h0 hS F0 rc rs Q H cells slots (mkF m (pc + 3) Ls (.ref a :: st))) (hDn : D ≠ "" := by decide) (hd : oAt code pc (.checkcast index, 3) = true := by decide +kernel) : Goes p l e R s m args below meth c Z a0 M s0 h0 hS F0 rc rs Q H cells slots (mkF m pc Ls (.ref a :: st)) := fun T locs S Y N A => by
  have E := (A.at hi : OKa Z T.heap a D ty vs).exa hDn
  obtain ⟨T', Y', e', st'⟩ := castY Y X.1 X.2.2.2.2.2.2.2 X.2.2.2.1 w rfl (Ins.of_exa E wc) (g := mkF m pc Ls (.ref a :: st)) rfl rfl (hb X.2.1 (oAt.dec hd))
  exact (k T' locs S Y' N (by rw [e']; exact A)).via st'
theorem Goes.castO (X : Cx p s m meth c Z y code maxL ret) {K : String} {index : Nat} (i : Nat) {a : Addr} {C : String} {fs : List OFld} (w : (Jvm.Cond.classLink y.cls index K).before a0 Z = true) (wc : (Jvm.Cond.castable C K).before a0 Z = true) {tg : Nat} (hi : H[i]? = some (a, tg, Sum.inl (C, fs))) (k : Goes p l e R s m args below meth c Z a0 M s0 h0 hS F0 rc rs Q H cells slots (mkF m (pc + 3) Ls (.ref a :: st))) (hd : oAt code pc (.checkcast index, 3) = true := by decide +kernel) : Goes p l e R s m args below meth c Z a0 M s0 h0 hS F0 rc rs Q H cells slots (mkF m pc Ls (.ref a :: st)) := fun T locs S Y N A => by
  obtain ⟨T', Y', e', st'⟩ := castY Y X.1 X.2.2.2.2.2.2.2 X.2.2.2.1 w rfl (Ins.of_exa (A.at hi).1 wc) (g := mkF m pc Ls (.ref a :: st)) rfl rfl (hb X.2.1 (oAt.dec hd))
  exact (k T' locs S Y' N (by rw [e']; exact A)).via st'
/-- a field of an object that stood at the start -/
theorem Goes.getFo (X : Cx p s m meth c Z y code maxL ret) {R0 O n d : String} {index : Nat} {a : Addr} {v : Value} (w : (Jvm.Cond.fieldLink y.cls index R0 n d).before a0 Z = true) (via : Via Z R0 O n d) (F : Fld Z h0 a O n d v) (k : Goes p l e R s m args below meth c Z a0 M s0 h0 hS F0 rc rs Q H cells slots (mkF m (pc + 3) Ls (v :: st))) (hd : oAt code pc (.getfield index, 3) = true := by decide +kernel) : Goes p l e R s m args below meth c Z a0 M s0 h0 hS F0 rc rs Q H cells slots (mkF m pc Ls (.ref a :: st)) := fun T locs S Y N A => by
  obtain ⟨T', Y', e', st'⟩ := RoadKit.getF Y X.1 X.2.2.2.2.2.2.2 (host := "") X.2.2.2.1 (Or.inl w) via rfl (F.ext A.1) (g := mkF m pc Ls (.ref a :: st)) rfl rfl (hb X.2.1 (oAt.dec hd))
  exact (k T' locs S Y' N (by rw [e']; exact A)).via st'
/-- a virtual call on an object that stood at the start -/
theorem Goes.callVo (X : Cx p s m meth c Z y code maxL ret) {index : Nat} {y' z' : MethodName} {code' : ByteArray} {maxL' : Nat} {ret' : Option FieldType} {rm : Room} {argsL : List Value} {a : Addr} {C : String} {F G : OHp} {Q' : Option Value → OHp → Prop} (W : Nat) (ix rx : List Nat) (E : Exa Z h0 a C) (D : Does l Z a0 h0 z' code' maxL' ret' rm (.ref a :: argsL).toArray F Q') (w1 : (Jvm.Cond.methodLink y.cls index y').before a0 Z = true) (w2 : (Jvm.Cond.declares y').before a0 Z = true) (w5 : (Jvm.Cond.selects C y' z').before a0 Z = true) (w6 : (Jvm.Cond.instanceMethod z').before a0 Z = true) (nf : NotFace s y') (w3 : (Jvm.Cond.initialized z'.cls).before a0 Z = true) (w4 : (Jvm.Cond.code z' code' maxL' ret').before a0 Z = true) {ps : List FieldType} {r : Option FieldType} (hpd : parseMethodDescriptor y'.desc = some ⟨ps, r⟩) (hlen : argsL.length = ps.length) {stk : List Value} (hstk : stk = argsL.reverse ++ .ref a :: st) (hsize : Ls.size = maxL) (hF : ix.map (fun i => H[i]?) = F.map some) (hG : rx.map (fun i => H[i]?) = G.map some) (k : ∀ v F', Q' v F' → own_tg F F' G ∧ Goes p l e R s m args below meth c Z a0 M s0 h0 hS F0 rc rs Q (F' ++ G) (cells + rm.cells) (slots + rm.slots) (mkF m (pc + 3) Ls (v.toList ++ st))) (hy : y'.cls ≠ "java/lang/invoke/MethodHandle" ∧ y'.cls ≠ "java/lang/invoke/VarHandle" := by decide) (hN : (ix ++ rx).Nodup := by decide) (hd : oAt code pc (.invokevirtual index, 3) = true := by decide +kernel) (hfr : rm.frames + 1 ≤ R.frames := by decide) (hW : (st.map fun v => v.category).sum = W := by rfl) (hlo : W + (maxL' + 11) + rm.locals ≤ R.locals := by decide) (hce : cells + rm.cells ≤ R.cells := by decide) (hsl : slots + rm.slots ≤ R.slots := by decide) : Goes p l e R s m args below meth c Z a0 M s0 h0 hS F0 rc rs Q H cells slots (mkF m pc Ls stk) := fun T locs S Y N A => by
  subst hstk hW
  have NN := List.nodup_append.mp hN
  obtain ⟨cq, kq, qa, qb, qc⟩ := isOf (T := T) X.2.2.2.2.2.2.2 rfl (E.ext A.1)
  obtain ⟨v, vm1, ⟨T', L', k', n'⟩, -, Y', ⟨Lc, ⟨N', F', hQ', B⟩, l', k'', n''⟩, st'⟩ := Y.virtualBack X.1 (y := y') (z := z') X.2.2.2.1 (mvT X.2.2.2.2.2.2.2 w1) (mvT X.2.2.2.2.2.2.2 w2) nf (mvT X.2.2.2.2.2.2.2 w5) (mvT X.2.2.2.2.2.2.2 w6) hy
    (backOf (W := (st.map fun v => v.category).sum) (Q := fun v h' L => Fr h0.size L ∧ ∃ F', Q' v F' ∧ Hp Z a0 none h0 T.heap F h' F') (D [] T.heap ((A.sub ix hF NN.1).enter)) X.2.2.2.2.2.2.2 w4 w3 hfr hlo) qa qc (g := mkF m pc Ls (argsL.reverse ++ .ref a :: st)) rfl (hsize.trans X.2.2.1.symm) (Steps.refl _) (argsL := argsL) (rest := st) (lenOf hpd hlen) rfl (by show 2 * 0 + _ ≤ _; omega) (hb X.2.1 (oAt.dec hd)) (fun _ _ => ⟨rfl, rfl, hce, hsl⟩)
  dsimp only [Pt.U, Pt.locs, Pt.cells, Pt.slots] at Y' l' k'' n'' st' B
  subst l' k'' n''
  exact ((k v F' hQ').2 T' _ S Y' (N.app N') (A.back hF hG hN B (k v F' hQ').1)).via fun t q => st'.trans q
end Arrs
/-! ## own kit, part 5: own, interface and nest calls -/
section Calls
variable {p : Program} {l : Launch} {e : Env} {R : Room} {s : State} {m : MethodId} {args : Array Value} {below : List Frame} {meth : Method} {c : Code} {Z : State} {a0 : Array Value} {h0 hS : Heap} {M : OMode} {s0 : State} {F0 : OHp} {rc rs : Nat} {Q : Option Value → OHp → Prop} {H : OHp} {cells slots : Nat} {y : MethodName} {code : ByteArray} {maxL : Nat} {ret : Option FieldType} {pc : Nat} {Ls : Array Slot} {st : List Value}
theorem nf_inst (X : Cx p s m meth c Z y code maxL ret) {y' : MethodName} {n : Nat} (w : (Jvm.Cond.instantiable y'.cls n).before a0 Z = true) : NotFace s y' := fun r0 hn => by
  obtain ⟨c2, k2, i1, i2, -, i4, -⟩ := Cond.instantiable_spec (mvT (args := #[]) X.2.2.2.2.2.2.2 w)
  have hc := findClass_of_methodNamed hn
  cases hc.symm.trans i1
  refine ⟨k2, i2, ?_⟩
  cases q : k2.isInterface
  · rfl
  · rw [q] at i4; cases i4
theorem Goes.callP (X : Cx p s m meth c Z y code maxL ret) {index : Nat} {y' : MethodName} {code' : ByteArray} {maxL' : Nat} {ret' : Option FieldType} {rm : Room} {argsL : List Value} {a : Addr} {C : String} {F G : OHp} {Q' : Option Value → OHp → Prop} (W : Nat) (i : Nat) (ix rx : List Nat) {fs : List OFld} {tg : Nat} (hi : H[i]? = some (a, tg, Sum.inl (C, fs))) (D : Does l Z a0 h0 y' code' maxL' ret' rm (.ref a :: argsL).toArray F Q') (w1 : (Jvm.Cond.methodLink y.cls index y').before a0 Z = true) (w2 : (Jvm.Cond.instanceMethod y').before a0 Z = true) (w5 : (Jvm.Cond.privateMethod y').before a0 Z = true) (nf : NotFace s y') (w3 : (Jvm.Cond.initialized y'.cls).before a0 Z = true) (w4 : (Jvm.Cond.code y' code' maxL' ret').before a0 Z = true) {ps : List FieldType} {r : Option FieldType} (hpd : parseMethodDescriptor y'.desc = some ⟨ps, r⟩) (hlen : argsL.length = ps.length) {stk : List Value} (hstk : stk = argsL.reverse ++ .ref a :: st) (hsize : Ls.size = maxL) (hF : ix.map (fun i => H[i]?) = F.map some) (hG : rx.map (fun i => H[i]?) = G.map some) (k : ∀ v F', Q' v F' → own_tg F F' G ∧ Goes p l e R s m args below meth c Z a0 M s0 h0 hS F0 rc rs Q (F' ++ G) (cells + rm.cells) (slots + rm.slots) (mkF m (pc + 3) Ls (v.toList ++ st))) (hy : y'.cls ≠ "java/lang/invoke/MethodHandle" ∧ y'.cls ≠ "java/lang/invoke/VarHandle" := by decide) (hN : (ix ++ rx).Nodup := by decide) (hd : oAt code pc (.invokevirtual index, 3) = true := by decide +kernel) (hfr : rm.frames + 1 ≤ R.frames := by decide) (hW : (st.map fun v => v.category).sum = W := by rfl) (hlo : W + (maxL' + 11) + rm.locals ≤ R.locals := by decide) (hce : cells + rm.cells ≤ R.cells := by decide) (hsl : slots + rm.slots ≤ R.slots := by decide) : Goes p l e R s m args below meth c Z a0 M s0 h0 hS F0 rc rs Q H cells slots (mkF m pc Ls stk) := fun T locs S Y N A => by
  subst hstk hW
  have NN := List.nodup_append.mp hN
  have hZ := X.2.2.2.2.2.2.2
  obtain ⟨cell, hcell, hobj⟩ := (A.at hi : OKo Z a0 T.heap a C fs).1.cell
  obtain ⟨mk, methM, hnamed, hmethM, hstM, habM⟩ := Cond.instanceMethod_spec (mvT (args := args) hZ w2)
  obtain ⟨methM', cM, hmethM', -, -, -, -, -, -, hsigM⟩ := Cond.code_spec hnamed (mvT (args := args) hZ w4)
  cases hmethM.symm.trans hmethM'
  obtain ⟨kP, hkP, hkPi⟩ := nf mk hnamed
  have hpriv : s.PrivateAt y' := Cond.privateMethod_at (mvP hZ w5 (args := #[]))
  have hselP : selectMethod e.platform s.vm cell.cls mk = .method mk := selectMethod_private hmethM (hpriv mk methM hnamed hmethM)
  obtain ⟨vm₁, X₁, hstep₁⟩ := Y.invokevirtual X.1 X.2.2.2.1 (mvT (args := args) hZ w1) hnamed hmethM hstM hkP hkPi hy (a := a) (cell := cell) hcell hobj hselP hmethM habM hkP hkPi (g := mkF m pc Ls (argsL.reverse ++ .ref a :: st)) rfl (argsL := argsL) (rest := st) (lenOf hpd hlen _ hsigM) rfl (hb X.2.1 (oAt.dec hd))
  obtain ⟨v, ⟨T', L', k', n'⟩, Y', ⟨Lc, ⟨N', F', hQ', B⟩, l', k'', n''⟩, st'⟩ := (backOf (args := args) (W := (st.map fun v => v.category).sum) (Q := fun v h' L => Fr h0.size L ∧ ∃ F', Q' v F' ∧ Hp Z a0 none h0 T.heap F h' F') (D [] T.heap ((A.sub ix hF NN.1).enter)) hZ w4 w3 hfr hlo) m meth c ⟨T.setVm vm₁, locs, cells, slots⟩ (mkF m pc Ls st) (.invokevirtual index) mk (.ref a :: argsL).toArray X₁ rfl (hsize.trans X.2.2.1.symm) (hb X.2.1 (oAt.dec hd)) (by show 2 * 0 + (st.map fun v => v.category).sum ≤ _; omega) (X₁.named hnamed) ⟨rfl, rfl, hce, hsl⟩
  dsimp only [Pt.U, Pt.locs, Pt.cells, Pt.slots] at Y' l' k'' n'' st' B
  subst l' k'' n''
  exact ((k v F' hQ').2 T' _ S Y' (N.app N') (A.back hF hG hN B (k v F' hQ').1)).via fun t q => (hstep₁ _ fun acts => by rw [doInvoke_state]; exact Steps.refl _).trans (st'.trans q)
theorem Goes.callI (X : Cx p s m meth c Z y code maxL ret) {index count : Nat} {xi z' : MethodName} {code' : ByteArray} {maxL' : Nat} {ret' : Option FieldType} {rm : Room} {argsL : List Value} {a : Addr} {C : String} {F G : OHp} {Q' : Option Value → OHp → Prop} (W : Nat) (i : Nat) (ix rx : List Nat) {fs : List OFld} {tg : Nat} (hi : H[i]? = some (a, tg, Sum.inl (C, fs))) (D : Does l Z a0 h0 z' code' maxL' ret' rm (.ref a :: argsL).toArray F Q') (w1 : (Jvm.Cond.methodLink y.cls index xi).before a0 Z = true) (w2 : (Jvm.Cond.declares xi).before a0 Z = true) (w5 : (Jvm.Cond.interfaceMethod xi.cls xi.cls xi.name xi.desc).before a0 Z = true) (w6 : (Jvm.Cond.selects C xi z').before a0 Z = true) (w7 : (Jvm.Cond.instanceMethod z').before a0 Z = true) (w8 : (Jvm.Cond.publicMethod z').before a0 Z = true) (w9 : (Jvm.Cond.unhidden C xi.name xi.desc).before a0 Z = true) (w10 : (Jvm.Cond.castable C xi.cls).before a0 Z = true) (w3 : (Jvm.Cond.initialized z'.cls).before a0 Z = true) (w4 : (Jvm.Cond.code z' code' maxL' ret').before a0 Z = true) {ps : List FieldType} {r : Option FieldType} (hpd : parseMethodDescriptor xi.desc = some ⟨ps, r⟩) (hlen : argsL.length = ps.length) {stk : List Value} (hstk : stk = argsL.reverse ++ .ref a :: st) (hsize : Ls.size = maxL) (hF : ix.map (fun i => H[i]?) = F.map some) (hG : rx.map (fun i => H[i]?) = G.map some) (k : ∀ v F', Q' v F' → own_tg F F' G ∧ Goes p l e R s m args below meth c Z a0 M s0 h0 hS F0 rc rs Q (F' ++ G) (cells + rm.cells) (slots + rm.slots) (mkF m (pc + 5) Ls (v.toList ++ st))) (hy : xi.cls ≠ "java/lang/invoke/MethodHandle" ∧ xi.cls ≠ "java/lang/invoke/VarHandle" := by decide) (hN : (ix ++ rx).Nodup := by decide) (hfc : ((Jvm.Cond.interfaceMethod xi.cls xi.cls xi.name xi.desc).onTables && (Jvm.Cond.interfaceMethod xi.cls xi.cls xi.name xi.desc).keepsFace) = true := by rfl) (hd : oAt code pc (.invokeinterface index count, 5) = true := by decide +kernel) (hfr : rm.frames + 1 ≤ R.frames := by decide) (hW : (st.map fun v => v.category).sum = W := by rfl) (hlo : W + (maxL' + 11) + rm.locals ≤ R.locals := by decide) (hce : cells + rm.cells ≤ R.cells := by decide) (hsl : slots + rm.slots ≤ R.slots := by decide) : Goes p l e R s m args below meth c Z a0 M s0 h0 hS F0 rc rs Q H cells slots (mkF m pc Ls stk) := fun T locs S Y N A => by
  subst hstk hW
  have NN := List.nodup_append.mp hN
  have hZ := X.2.2.2.2.2.2.2
  obtain ⟨cq, kq, qa, qb, qc⟩ := isOf (T := T) hZ rfl (A.at hi).1
  obtain ⟨v, vm1, ⟨T', L', k', n'⟩, -, Y', ⟨Lc, ⟨N', F', hQ', B⟩, l', k'', n''⟩, st'⟩ := Y.interfaceBack X.1 (xi := xi) (y := z') X.2.2.2.1 (mvT hZ w1) (mvT hZ w2) (mvT hZ w5 hfc) (mvT hZ w6) (mvT hZ w7) (mvT hZ w8) (mvT hZ w9) (mvT hZ w10) hy
    (backOf (W := (st.map fun v => v.category).sum) (Q := fun v h' L => Fr h0.size L ∧ ∃ F', Q' v F' ∧ Hp Z a0 none h0 T.heap F h' F') (D [] T.heap ((A.sub ix hF NN.1).enter)) hZ w4 w3 hfr hlo) qa qb qc (g := mkF m pc Ls (argsL.reverse ++ .ref a :: st)) rfl (hsize.trans X.2.2.1.symm) (Steps.refl _) (argsL := argsL) (rest := st) (lenOf hpd hlen) rfl (by show 2 * 0 + _ ≤ _; omega) (hb X.2.1 (oAt.dec hd)) (fun _ _ => ⟨rfl, rfl, hce, hsl⟩)
  dsimp only [Pt.U, Pt.locs, Pt.cells, Pt.slots] at Y' l' k'' n'' st' B
  subst l' k'' n''
  exact ((k v F' hQ').2 T' _ S Y' (N.app N') (A.back hF hG hN B (k v F' hQ').1)).via fun t q => st'.trans q
theorem Goes.callSN (X : Cx p s m meth c Z y code maxL ret) {index : Nat} {host : String} {y' : MethodName} {code' : ByteArray} {maxL' : Nat} {ret' : Option FieldType} {rm : Room} {argsL : List Value} {F G : OHp} {Q' : Option Value → OHp → Prop} (W : Nat) (ix rx : List Nat) (D : Does l Z a0 h0 y' code' maxL' ret' rm argsL.toArray F Q') (w1 : (Jvm.Cond.methodLinkNest y.cls index y' host).before a0 Z = true) (w2 : (Jvm.Cond.static y').before a0 Z = true) (w3 : (Jvm.Cond.initialized y'.cls).before a0 Z = true) (w4 : (Jvm.Cond.code y' code' maxL' ret').before a0 Z = true) {ps : List FieldType} {r : Option FieldType} (hpd : parseMethodDescriptor y'.desc = some ⟨ps, r⟩) (hlen : argsL.length = ps.length) {stk : List Value} (hstk : stk = argsL.reverse ++ st) (hsize : Ls.size = maxL) (hF : ix.map (fun i => H[i]?) = F.map some) (hG : rx.map (fun i => H[i]?) = G.map some) (k : ∀ v F', Q' v F' → own_tg F F' G ∧ Goes p l e R s m args below meth c Z a0 M s0 h0 hS F0 rc rs Q (F' ++ G) (cells + rm.cells) (slots + rm.slots) (mkF m (pc + 3) Ls (v.toList ++ st))) (hy : y'.cls ≠ "java/lang/invoke/MethodHandle" ∧ y'.cls ≠ "java/lang/invoke/VarHandle" := by decide) (hN : (ix ++ rx).Nodup := by decide) (hd : oAt code pc (.invokestatic index, 3) = true := by decide +kernel) (hfr : rm.frames + 1 ≤ R.frames := by decide) (hW : (st.map fun v => v.category).sum = W := by rfl) (hlo : W + (maxL' + 11) + rm.locals ≤ R.locals := by decide) (hce : cells + rm.cells ≤ R.cells := by decide) (hsl : slots + rm.slots ≤ R.slots := by decide) : Goes p l e R s m args below meth c Z a0 M s0 h0 hS F0 rc rs Q H cells slots (mkF m pc Ls stk) := fun T locs S Y N A => by
  subst hstk hW
  have NN := List.nodup_append.mp hN
  have hZ := X.2.2.2.2.2.2.2
  obtain ⟨v, vm1, ⟨T', L', k', n'⟩, -, Y', ⟨Lc, ⟨N', F', hQ', B⟩, l', k'', n''⟩, st'⟩ := RoadKit.callSN Y X.1 (y := y') X.2.2.2.1 (Cond.methodLinkNest_wide hZ w1 :) (mvT hZ w2) (mvT hZ w3) (mvT hZ w4) hy
    (backOf (W := (st.map fun v => v.category).sum) (Q := fun v h' L => Fr h0.size L ∧ ∃ F', Q' v F' ∧ Hp Z a0 none h0 T.heap F h' F') (D [] T.heap ((A.sub ix hF NN.1).enter)) hZ w4 w3 hfr hlo) (g := mkF m pc Ls (argsL.reverse ++ st)) rfl (hsize.trans X.2.2.1.symm) (argsL := argsL) (rest := st) (lenOf hpd hlen) rfl (by show 2 * 0 + _ ≤ _; omega) (hb X.2.1 (oAt.dec hd)) (fun _ _ => ⟨rfl, rfl, hce, hsl⟩)
  dsimp only [Pt.U, Pt.locs, Pt.cells, Pt.slots] at Y' l' k'' n'' st' B
  subst l' k'' n''
  exact ((k v F' hQ').2 T' _ S Y' (N.app N') (A.back hF hG hN B (k v F' hQ').1)).via fun t q => st'.trans q
end Calls
section More
variable {p : Program} {l : Launch} {e : Env} {R : Room} {s : State} {m : MethodId} {args : Array Value} {below : List Frame} {meth : Method} {c : Code} {Z : State} {a0 : Array Value} {h0 hS : Heap} {M : OMode} {s0 : State} {F0 : OHp} {rc rs : Nat} {Q : Option Value → OHp → Prop} {H : OHp} {cells slots : Nat} {y : MethodName} {code : ByteArray} {maxL : Nat} {ret : Option FieldType} {pc : Nat} {Ls : Array Slot} {st : List Value}
theorem Goes.ldcJ (X : Cx p s m meth c Z y code maxL ret) {index : Nat} {v : Int64} (w : (Jvm.Cond.constantLong y.cls index v).before a0 Z = true) (k : Goes p l e R s m args below meth c Z a0 M s0 h0 hS F0 rc rs Q H cells slots (mkF m (pc + 3) Ls (.long v :: st))) (hd : oAt code pc (.ldc2_w index, 3) = true := by decide +kernel) : Goes p l e R s m args below meth c Z a0 M s0 h0 hS F0 rc rs Q H cells slots (mkF m pc Ls st) := fun T locs S Y N A =>
  (k T locs S Y N A).via fun t r => Y.ldc2J X.1 X.2.2.2.1 (mvT X.2.2.2.2.2.2.2 w) rfl (hb X.2.1 (oAt.dec hd)) r
/-- 'b ? 1 : 0' as javac writes it -/
theorem Goes.bool1 (X : Cx p s m meth c Z y code maxL ret) {cd : ClassFile.Cond} {o o2 : Int} {pc' pc2 : Nat} {x : Int32} (h1 : oAt code (pc + 3) (.iconst 1, 1) = true) (h2 : oAt code (pc + 4) (.goto o2, 3) = true) (h3 : oAt code pc' (.iconst 0, 1) = true) (h4 : pc' + 1 = pc2) (k : ∀ b : Int32, b = (if ifCond.holds cd x = true then 0 else 1) → Goes p l e R s m args below meth c Z a0 M s0 h0 hS F0 rc rs Q H cells slots (mkF m pc2 Ls (.int b :: st))) (hd : oAt code pc (.ifCond cd o, 3) = true := by decide +kernel) (ho : 0 ≤ (pc : Int) + o := by decide) (hp : ((pc : Int) + o).toNat = pc' := by decide) (ho2 : 0 ≤ ((pc + 4 : Nat) : Int) + o2 := by decide) (hp2 : (((pc + 4 : Nat) : Int) + o2).toNat = pc2 := by decide) : Goes p l e R s m args below meth c Z a0 M s0 h0 hS F0 rc rs Q H cells slots (mkF m pc Ls (.int x :: st)) := by
  subst h4
  refine Goes.if1 X (fun q => ?_) (fun q => ?_) hd ho hp
  · exact Goes.run X [(.iconst 0, 1)] rfl (k 0 (by rw [if_pos q])) (by simp [oBlk, h3]) rfl
  · exact Goes.run X [(.iconst 1, 1)] rfl (Goes.goto X (k 1 (by rw [if_neg (by rw [q]; simp)])) h2 ho2 hp2) (by simp [oBlk, h1]) rfl
end More
section Up
variable {p : Program} {l : Launch} {e : Env} {R : Room} {s : State} {m : MethodId} {args : Array Value} {below : List Frame} {meth : Method} {c : Code} {Z : State} {a0 : Array Value} {h0 hS : Heap} {M : OMode} {s0 : State} {F0 : OHp} {rc rs : Nat} {Q : Option Value → OHp → Prop} {H : OHp} {cells slots : Nat} {y : MethodName} {code : ByteArray} {maxL : Nat} {ret : Option FieldType} {pc : Nat} {Ls : Array Slot} {st : List Value}
theorem Goes.tsw (X : Cx p s m meth c Z y code maxL ret) {dflt low high : Int} {offs : Array Int} {len pc' : Nat} {o : Int} {i : Int32} (hin : ¬ (i.toInt < low ∨ i.toInt > high)) (hoff : offs[(i.toInt - low).toNat]? = some o) (k : Goes p l e R s m args below meth c Z a0 M s0 h0 hS F0 rc rs Q H cells slots (mkF m pc' Ls st)) (hd : oAt code pc (.tableswitch dflt low high offs, len) = true := by decide +kernel) (ho : 0 ≤ (pc : Int) + o := by decide) (hp : ((pc : Int) + o).toNat = pc' := by decide) : Goes p l e R s m args below meth c Z a0 M s0 h0 hS F0 rc rs Q H cells slots (mkF m pc Ls (.int i :: st)) := fun T locs S Y N A =>
  (k T locs S Y N A).via fun t r => XS.tswIn Y.here X.1 rfl (pc0 := pc) rfl (hb X.2.1 (oAt.dec hd)) rfl hin hoff ho hp r
/-- super.m(..) -/
theorem Goes.callU (X : Cx p s m meth c Z y code maxL ret) {index : Nat} {y' : MethodName} {code' : ByteArray} {maxL' : Nat} {ret' : Option FieldType} {rm : Room} {argsL : List Value} {a : Addr} {C : String} {F G : OHp} {Q' : Option Value → OHp → Prop} (W : Nat) (i : Nat) (ix rx : List Nat) {fs : List OFld} {tg : Nat} (hi : H[i]? = some (a, tg, Sum.inl (C, fs))) (D : Does l Z a0 h0 y' code' maxL' ret' rm (.ref a :: argsL).toArray F Q') (w1 : (Jvm.Cond.methodLink y.cls index y').before a0 Z = true) (w2 : (Jvm.Cond.instanceMethod y').before a0 Z = true) (w5 : (Jvm.Cond.superclass y.cls y'.cls).before a0 Z = true) (w6 : (Jvm.Cond.sameMethod y'.cls y'.cls y'.name y'.desc).before a0 Z = true) (hn : y'.name ≠ "<init>") (w3 : (Jvm.Cond.initialized y'.cls).before a0 Z = true) (w4 : (Jvm.Cond.code y' code' maxL' ret').before a0 Z = true) {ps : List FieldType} {r : Option FieldType} (hpd : parseMethodDescriptor y'.desc = some ⟨ps, r⟩) (hlen : argsL.length = ps.length) {stk : List Value} (hstk : stk = argsL.reverse ++ .ref a :: st) (hsize : Ls.size = maxL) (hF : ix.map (fun i => H[i]?) = F.map some) (hG : rx.map (fun i => H[i]?) = G.map some) (k : ∀ v F', Q' v F' → own_tg F F' G ∧ Goes p l e R s m args below meth c Z a0 M s0 h0 hS F0 rc rs Q (F' ++ G) (cells + rm.cells) (slots + rm.slots) (mkF m (pc + 3) Ls (v.toList ++ st))) (hN : (ix ++ rx).Nodup := by decide) (hd : oAt code pc (.invokespecial index, 3) = true := by decide +kernel) (hfr : rm.frames + 1 ≤ R.frames := by decide) (hW : (st.map fun v => v.category).sum = W := by rfl) (hlo : W + (maxL' + 11) + rm.locals ≤ R.locals := by decide) (hce : cells + rm.cells ≤ R.cells := by decide) (hsl : slots + rm.slots ≤ R.slots := by decide) : Goes p l e R s m args below meth c Z a0 M s0 h0 hS F0 rc rs Q H cells slots (mkF m pc Ls stk) := fun T locs S Y N A => by
  subst hstk hW
  have NN := List.nodup_append.mp hN
  have hZ := X.2.2.2.2.2.2.2
  obtain ⟨v, vm1, ⟨T', L', k', n'⟩, -, Y', ⟨Lc, ⟨N', F', hQ', B⟩, l', k'', n''⟩, st'⟩ := superBack Y X.1 hZ (y := y') X.2.2.2.1 w1 w6 w2 w5 hn
    (backOf (W := (st.map fun v => v.category).sum) (Q := fun v h' L => Fr h0.size L ∧ ∃ F', Q' v F' ∧ Hp Z a0 none h0 T.heap F h' F') (D [] T.heap ((A.sub ix hF NN.1).enter)) hZ w4 w3 hfr hlo) rfl (Ins.self (A.at hi : OKo Z a0 T.heap a C fs).1) (g := mkF m pc Ls (argsL.reverse ++ .ref a :: st)) rfl (hsize.trans X.2.2.1.symm) w4 (argsL := argsL) (rest := st) (lenOf hpd hlen) rfl (by show 2 * 0 + _ ≤ _; omega) (hb X.2.1 (oAt.dec hd)) (fun _ _ => ⟨rfl, rfl, hce, hsl⟩)
  dsimp only [Pt.U, Pt.locs, Pt.cells, Pt.slots] at Y' l' k'' n'' st' B
  subst l' k'' n''
  exact ((k v F' hQ').2 T' _ S Y' (N.app N') (A.back hF hG hN B (k v F' hQ').1)).via fun t q => st'.trans q
/-- one that some 'selects' word shows to be no interface finds its own method -/
theorem own_same {C : String} {y1 z1 y' : MethodName} (w1 : (Jvm.Cond.selects C z1 y1).before a0 Z = true) (hc : y1.cls = y'.cls) (w2 : (Jvm.Cond.instanceMethod y').before a0 Z = true) (hx : y'.cls ≠ "java/lang/invoke/MethodHandle" ∧ y'.cls ≠ "java/lang/invoke/VarHandle") : (Jvm.Cond.sameMethod y'.cls y'.cls y'.name y'.desc).before a0 Z = true := by
  obtain ⟨c1, r1, m1, -, -, q3, -, kP, hkP, hkPi⟩ := Cond.selects_spec w1
  obtain ⟨mk, methM, hnamed, hmethM, hstM, habM⟩ := Cond.instanceMethod_spec w2
  have e1 := findClass_of_methodNamed q3
  have e2 := findClass_of_methodNamed hnamed
  rw [hc] at e1
  have e3 : m1.cls = mk.cls := Option.some.inj (e1.symm.trans e2)
  rw [e3] at hkP
  have hf := State.methodFound?_of_named hnamed hx
  have hnamed' : Z.methodNamed? ⟨y'.cls, y'.name, y'.desc⟩ = some mk := hnamed
  simp [Cond.before, Cond.holds, Cond.value, e2, hkP, hkPi, hf, hnamed']
end Up
/-! ## own kit, wide form, part 6: String constants; callees that load them -/
section WideLaws
variable {p : Program} {l : Launch} {e : Env} {R : Room} {m : MethodId} {args : Array Value} {below : List Frame} {meth : Method} {c : Code} {Z : State} {a0 : Array Value} {EL : List (String × Nat)} {vmS vm0 vm1 : Vm} {k0 k1 : Nat} {s0 : State} {h0 hS h h' : Heap} {F0 : OHp} {rc rs : Nat} {Q : Option Value → OHp → Prop} {H : OHp} {cells slots : Nat} {y : MethodName} {code : ByteArray} {maxL : Nat} {ret : Option FieldType} {pc : Nat} {Ls : Array Slot} {st : List Value}
theorem Hp.enterW {F : OHp} (A : Hp Z a0 (some (EL, vmS, vm0, k0)) h0 hS F0 h F) : Hp Z a0 (some (EL, vm0, vm0, h.size)) h0 h F h F := by
  obtain ⟨E, K, ⟨w, hZ, C, hk⟩, G, I⟩ := A
  exact ⟨E, Keep.refl _ _, ⟨w, hZ, CHr.refl C.1, Nat.le_refl _⟩, fun i x hi => ⟨(G i x hi).1, fun t => ⟨((G i x hi).2.1 t).1, Or.inl (own_wsOf (List.mem_of_getElem? hi) t), ((G i x hi).2.1 t).2.2⟩, fun t => Or.inl (own_ksOf (List.mem_of_getElem? hi) (Or.inr t))⟩, I⟩
/-- other tables, the same heap -/
theorem Hp.vm (A : Hp Z a0 (some (EL, vmS, vm0, k0)) h0 hS F0 h H) (hZ : Z.Warmed39 vm1) (C : CHr Z EL vm0 h vm1 h) : Hp Z a0 (some (EL, vmS, vm1, k0)) h0 hS F0 h H := by
  obtain ⟨E, K, ⟨w, -, C0, hk⟩, F, I⟩ := A
  exact ⟨E, K, ⟨w, hZ, C0.trans C, hk⟩, fun i x hi => ⟨(F i x hi).1, fun t => ⟨((F i x hi).2.1 t).1, ((F i x hi).2.1 t).2.1, C.safe (F i x hi).1.lt ((F i x hi).2.1 t).2.2⟩, (F i x hi).2.2⟩, I⟩
theorem Hp.backW {F F' G : OHp} {ix rx : List Nat} (A : Hp Z a0 (some (EL, vmS, vm0, k0)) h0 hS F0 h H) (hF : ix.map (fun i => H[i]?) = F.map some) (hG : rx.map (fun i => H[i]?) = G.map some) (hN : (ix ++ rx).Nodup) (B : Hp Z a0 (some (EL, vm0, vm1, k1)) h0 h F h' F')
    (hT : own_tg F F' G) : Hp Z a0 (some (EL, vmS, vm1, h'.size)) h0 hS F0 h' (F' ++ G) := by
  have N := List.nodup_append.mp hN
  have AG := A.sub rx hG N.2.1
  have ws := own_wsSafe A hF
  have cr := own_cross (F' := F') A hF hG hN (fun x hx t => by obtain ⟨k, hk⟩ := List.mem_iff_getElem?.mp hx; exact ((B.2.2.2.1 k x hk).2.1 t).2.1) (fun x hx t => by obtain ⟨k, hk⟩ := List.mem_iff_getElem?.mp hx; exact (B.2.2.2.1 k x hk).2.2 t) hT
  have key : ∀ (k : Nat) (x : Addr × OObj), (F' ++ G)[k]? = some x → (k < F'.length ∧ F'[k]? = some x) ∨ (F'.length ≤ k ∧ G[k - F'.length]? = some x) := fun k x hk => by
    rw [List.getElem?_append] at hk
    split at hk
    · rename_i q; exact Or.inl ⟨q, hk⟩
    · rename_i q; exact Or.inr ⟨Nat.le_of_not_lt q, hk⟩
  refine ⟨B.1, A.2.1.trans B.2.1 fun x hx => (ws x hx).2.2, ⟨B.2.2.1.1, B.2.2.1.2.1, A.2.2.1.2.2.1.trans B.2.2.1.2.2.1, Nat.le_refl _⟩, fun k x hk => ?_, fun k1 k2 x y g1 g2 e t => ?_⟩
  · rcases key k x hk with ⟨-, q⟩ | ⟨-, q⟩
    · obtain ⟨r1, r2, r3⟩ := B.2.2.2.1 k x q
      refine ⟨r1, fun t => ⟨(r2 t).1, ?_, (r2 t).2.2⟩, fun t => (r3 t).elim (own_ks A hF _) fun z => Or.inr (Nat.le_trans A.2.1.1 z)⟩
      exact (r2 t).2.1.elim (fun z => (ws _ z).2.2) fun z => Or.inr (Nat.le_trans A.2.1.1 z)
    · obtain ⟨r1, r2, r3⟩ := AG.2.2.2.1 _ x q
      refine ⟨r1.keep B.2.1 fun z => ?_, fun t => ⟨(r2 t).1, (r2 t).2.1, B.2.2.1.2.2.1.safe r1.lt (r2 t).2.2⟩, r3⟩
      obtain ⟨w, hw, e, tw⟩ := own_wsOf_e z
      obtain ⟨k1, p1⟩ := List.mem_iff_getElem?.mp hw
      obtain ⟨i, pi, hi⟩ := own_pick hF k1 w p1
      obtain ⟨j, pj, hj⟩ := own_pick hG _ x q
      have := A.2.2.2.2 i j w x hi hj e (Or.inl tw)
      subst this
      exact N.2.2 i (List.mem_of_getElem? pi) i (List.mem_of_getElem? pj) rfl
  · rcases key k1 x g1 with ⟨l1, q1⟩ | ⟨l1, q1⟩ <;> rcases key k2 y g2 with ⟨l2, q2⟩ | ⟨l2, q2⟩
    · exact B.2.2.2.2 _ _ _ _ q1 q2 e t
    · exact absurd e (cr x (List.mem_of_getElem? q1) y (List.mem_of_getElem? q2) t)
    · exact absurd e.symm (cr y (List.mem_of_getElem? q2) x (List.mem_of_getElem? q1) t.symm)
    · have := AG.2.2.2.2 _ _ _ _ q1 q2 e t; omega
/-- the premise on a callee that loads constants, out of its contract -/
theorem own_backW {y' : MethodName} {code' : ByteArray} {maxL' : Nat} {ret' : Option FieldType} {rm : Room} {len W : Nat} {as' : Array Value} {F : OHp} {Q' : Option Value → OHp → Prop}
    (D : DoesW l Z a0 EL h0 y' code' maxL' ret' rm as' F Q') (A : Hp Z a0 (some (EL, vmS, vm0, k0)) h0 hS F0 h F) (wc : (Jvm.Cond.code y' code' maxL' ret').before a0 Z = true) (wz : (Jvm.Cond.initialized y'.cls).before a0 Z = true) (hf : rm.frames + 1 ≤ R.frames) (hl : W + (maxL' + 11) + rm.locals ≤ R.locals) :
    BackS l R p e below (s0.setVm vm0) args y' len W (fun P a => a = as' ∧ P.U.heap = h ∧ P.cells + rm.cells ≤ R.cells ∧ P.slots + rm.slots ≤ R.slots)
      (fun P _ v B => ∃ L, (Fr h0.size L ∧ ∃ F' k1, Q' v F' ∧ ∃ vmE, Z.Warmed39 vmE ∧ CHr Z EL vm0 h vmE h ∧ Hp Z a0 (some (EL, vmE, B.U.vm, k1)) h0 h F B.U.heap F') ∧ B.locs = P.locs ++ L ∧ B.cells = P.cells + rm.cells ∧ B.slots = P.slots + rm.slots) := by
  have hZ := A.2.2.1.2.1
  have w := A.2.2.1.1
  have H := A.2.2.1.2.2.1.1
  exact BackS.of_freeW (bytes := code') (maxL := maxL') (ret := ret') (E := fun _ first o t L k n => k = rm.cells ∧ n = rm.slots ∧ ∃ v, o = .returned v ∧ Fr h0.size L ∧ ∃ F' k1, Q' v F' ∧ Hp Z a0 (some (EL, first.vm, t.vm, k1)) h0 h F t.heap F') (D [] h) hf hl
    (fun m meth c P a Y hp => have hU : Z.Warmed39 P.U.vm := wtrans (s := s0.setVm vm0) hZ Y.warmed
      ⟨by show (Cond.and _ .tt).before a P.U = true; rw [Cond.before_and, mv hU wc]; rfl, mv hU wc, mv hU wz, hp.2.2.1, hp.2.2.2⟩)
    (fun m meth c P a g mk Y hp => ⟨hp.1, wtrans (s := s0.setVm vm0) hZ Y.warmed, hp.2.1, (A.vm (wtrans (s := s0.setVm vm0) hZ Y.warmed) (CHv.at Y hZ w H)).enterW⟩) (fun _ _ _ _ _ _ _ _ _ => trivial)
    (fun _ _ _ _ ⟨v, L, h1, h2, h3⟩ => ⟨L, _, _, h3, rfl, rfl, v, h1, h2⟩)
    (fun m meth c P a g mk v t L k n Y hp _ _ ⟨e1, e2, v', e3, e4, F', k1, e5, e6⟩ => by
      cases e3; subst e1 e2
      exact ⟨L, ⟨e4, F', k1, e5, P.U.vm, wtrans (s := s0.setVm vm0) hZ Y.warmed, CHv.at Y hZ w H, e6⟩, rfl, rfl, rfl⟩)
theorem own_cxW (X : Cx p (s0.setVm vm0) m meth c Z y code maxL ret) (hW : (s0.setVm vm0).Warmed39 vm1) (hZ : Z.Warmed39 vm1) : Cx p (s0.setVm vm1) m meth c Z y code maxL ret :=
  ⟨X.1, X.2.1, X.2.2.1, by show vm1.findClass y.cls = _; rw [hW.alike.findClass]; exact X.2.2.2.1, X.2.2.2.2.1, X.2.2.2.2.2.1, X.2.2.2.2.2.2.1, hZ⟩
/-- a static call of a method that loads constants -/
theorem Goes.callSW (X : Cx p (s0.setVm vm0) m meth c Z y code maxL ret) {index : Nat} {y' : MethodName} {code' : ByteArray} {maxL' : Nat} {ret' : Option FieldType} {rm : Room} {argsL : List Value} {F G : OHp} {Q' : Option Value → OHp → Prop} (W : Nat) (ix rx : List Nat) (D : DoesW l Z a0 EL h0 y' code' maxL' ret' rm argsL.toArray F Q') (w1 : (Jvm.Cond.methodLink y.cls index y').before a0 Z = true) (w2 : (Jvm.Cond.static y').before a0 Z = true) (w3 : (Jvm.Cond.initialized y'.cls).before a0 Z = true) (w4 : (Jvm.Cond.code y' code' maxL' ret').before a0 Z = true) {ps : List FieldType} {r : Option FieldType} (hpd : parseMethodDescriptor y'.desc = some ⟨ps, r⟩) (hlen : argsL.length = ps.length) {stk : List Value} (hstk : stk = argsL.reverse ++ st) (hsize : Ls.size = maxL) (hF : ix.map (fun i => H[i]?) = F.map some) (hG : rx.map (fun i => H[i]?) = G.map some)
    (k : ∀ v F' vm1 k1, Q' v F' → Cx p (s0.setVm vm1) m meth c Z y code maxL ret → own_tg F F' G ∧ Goes p l e R (s0.setVm vm1) m args below meth c Z a0 (some (EL, vmS, vm1, k1)) s0 h0 hS F0 rc rs Q (F' ++ G) (cells + rm.cells) (slots + rm.slots) (mkF m (pc + 3) Ls (v.toList ++ st))) (hy : y'.cls ≠ "java/lang/invoke/MethodHandle" ∧ y'.cls ≠ "java/lang/invoke/VarHandle" := by decide) (hN : (ix ++ rx).Nodup := by decide) (hd : oAt code pc (.invokestatic index, 3) = true := by decide +kernel) (hfr : rm.frames + 1 ≤ R.frames := by decide) (hW : (st.map fun v => v.category).sum = W := by rfl) (hlo : W + (maxL' + 11) + rm.locals ≤ R.locals := by decide) (hce : cells + rm.cells ≤ R.cells := by decide) (hsl : slots + rm.slots ≤ R.slots := by decide) :
    Goes p l e R (s0.setVm vm0) m args below meth c Z a0 (some (EL, vmS, vm0, k0)) s0 h0 hS F0 rc rs Q H cells slots (mkF m pc Ls stk) := fun T locs S Y N A => by
  subst hstk hW
  have NN := List.nodup_append.mp hN
  have hZ := X.2.2.2.2.2.2.2
  obtain ⟨mk, hnamed⟩ := Cond.code_named (mvT (args := args) hZ w4)
  obtain ⟨methM, cM, hmethM, -, -, -, -, -, -, hsig⟩ := Cond.code_spec hnamed (mvT (args := args) hZ w4)
  obtain ⟨v, vm1, ⟨T', L', k', n'⟩, hW1, Y', hSi, hgr, ⟨Lc, ⟨N', F', k1, hQ', vmE, hZE, hCE, B⟩, l', k'', n''⟩, st'⟩ := Y.staticBackS X.1 (y := y') X.2.2.2.1 (mvT hZ w1) (mvT hZ w2) (mvT hZ w3) hnamed hmethM hsig hy
    (own_backW D (A.sub ix hF NN.1) w4 w3 hfr hlo) (g := mkF m pc Ls (argsL.reverse ++ st)) rfl (hsize.trans X.2.2.1.symm) (Steps.refl _) (argsL := argsL) (rest := st) (lenOf hpd hlen) rfl (by show 2 * 0 + _ ≤ _; omega) (hb X.2.1 (oAt.dec hd)) (fun _ _ => ⟨rfl, rfl, hce, hsl⟩)
  dsimp only [Pt.U, Pt.locs, Pt.cells, Pt.slots] at Y' l' k'' n'' st' B hSi hgr
  subst l' k'' n''
  have K := k v F' T'.vm T'.heap.size hQ' (own_cxW X hSi.1 B.2.2.1.2.1)
  exact (K.2 T' _ ⟨rfl, S.2.trans hSi (Nat.le_trans A.2.2.1.2.2.2 hgr)⟩ Y' (N.app N') ((A.vm hZE hCE).backW hF hG hN B K.1)).via fun t q => st'.trans q
/-- a constructor's call that loads constants -/
theorem Goes.callNW (X : Cx p (s0.setVm vm0) m meth c Z y code maxL ret) {index : Nat} {y' : MethodName} {code' : ByteArray} {maxL' : Nat} {rm : Room} {argsL : List Value} {a : Addr} {F G : OHp} {Q' : Option Value → OHp → Prop} (W : Nat) (ix rx : List Nat) (D : DoesW l Z a0 EL h0 y' code' maxL' none rm (.ref a :: argsL).toArray F Q') (hy1 : y'.name = "<init>") (w1 : (Jvm.Cond.methodLink y.cls index y').before a0 Z = true) (w2 : (Jvm.Cond.instanceMethod y').before a0 Z = true) (w3 : (Jvm.Cond.initialized y'.cls).before a0 Z = true) (w4 : (Jvm.Cond.code y' code' maxL' none).before a0 Z = true) {ps : List FieldType} {r : Option FieldType} (hpd : parseMethodDescriptor y'.desc = some ⟨ps, r⟩) (hlen : argsL.length = ps.length) {stk : List Value} (hstk : stk = argsL.reverse ++ .ref a :: st) (hsize : Ls.size = maxL) (hF : ix.map (fun i => H[i]?) = F.map some) (hG : rx.map (fun i => H[i]?) = G.map some)
    (k : ∀ v F' vm1 k1, Q' v F' → Cx p (s0.setVm vm1) m meth c Z y code maxL ret → own_tg F F' G ∧ Goes p l e R (s0.setVm vm1) m args below meth c Z a0 (some (EL, vmS, vm1, k1)) s0 h0 hS F0 rc rs Q (F' ++ G) (cells + rm.cells) (slots + rm.slots) (mkF m (pc + 3) Ls (v.toList ++ st))) (hy : y'.cls ≠ "java/lang/invoke/MethodHandle" ∧ y'.cls ≠ "java/lang/invoke/VarHandle" := by decide) (hN : (ix ++ rx).Nodup := by decide) (hd : oAt code pc (.invokespecial index, 3) = true := by decide +kernel) (hfr : rm.frames + 1 ≤ R.frames := by decide) (hW : (st.map fun v => v.category).sum = W := by rfl) (hlo : W + (maxL' + 11) + rm.locals ≤ R.locals := by decide) (hce : cells + rm.cells ≤ R.cells := by decide) (hsl : slots + rm.slots ≤ R.slots := by decide) :
    Goes p l e R (s0.setVm vm0) m args below meth c Z a0 (some (EL, vmS, vm0, k0)) s0 h0 hS F0 rc rs Q H cells slots (mkF m pc Ls stk) := fun T locs S Y N A => by
  subst hstk hW
  have NN := List.nodup_append.mp hN
  have hZ := X.2.2.2.2.2.2.2
  obtain ⟨v, vm1, ⟨T', L', k', n'⟩, hW1, Y', hSi, hgr, ⟨Lc, ⟨N', F', k1, hQ', vmE, hZE, hCE, B⟩, l', k'', n''⟩, st'⟩ := Y.specialBackS X.1 (y := y') hy1 X.2.2.2.1 (mvT hZ w1) (mvT hZ w2) (mvT hZ w4) hy
    (own_backW D (A.sub ix hF NN.1) w4 w3 hfr hlo) (g := mkF m pc Ls (argsL.reverse ++ .ref a :: st)) rfl (hsize.trans X.2.2.1.symm) (Steps.refl _) (a := a) (argsL := argsL) (rest := st) (lenOf hpd hlen) rfl (by show 2 * 0 + _ ≤ _; omega) (hb X.2.1 (oAt.dec hd)) (fun _ _ => ⟨rfl, rfl, hce, hsl⟩)
  dsimp only [Pt.U, Pt.locs, Pt.cells, Pt.slots] at Y' l' k'' n'' st' B hSi hgr
  subst l' k'' n''
  have K := k v F' T'.vm T'.heap.size hQ' (own_cxW X hSi.1 B.2.2.1.2.1)
  exact (K.2 T' _ ⟨rfl, S.2.trans hSi (Nat.le_trans A.2.2.1.2.2.2 hgr)⟩ Y' (N.app N') ((A.vm hZE hCE).backW hF hG hN B K.1)).via fun t q => st'.trans q
end WideLaws
section Lits
variable {p : Program} {l : Launch} {e : Env} {R : Room} {m : MethodId} {args : Array Value} {below : List Frame} {meth : Method} {c : Code} {Z : State} {a0 : Array Value} {EL : List (String × Nat)} {vmS vm0 vm1 : Vm} {k0 k1 : Nat} {s0 : State} {h0 hS h h' : Heap} {F0 : OHp} {rc rs : Nat} {Q : Option Value → OHp → Prop} {H : OHp} {cells slots : Nat} {y : MethodName} {code : ByteArray} {maxL : Nat} {ret : Option FieldType} {pc : Nat} {Ls : Array Slot} {st : List Value}
theorem Hp.lit {L : OHp} (A : Hp Z a0 (some (EL, vmS, vm0, k0)) h0 hS F0 h H) (hZ1 : Z.Warmed39 vm1) (E' : Ext h h') (C : CHr Z EL vm0 h vm1 h') (hk : k1 ≤ h'.size) (hL : ∀ x ∈ L, OK Z a0 h' x.1 x.2 ∧ x.2.1 = 2 ∧ ∀ z, Safe Z EL vm1 h' z → z ≠ x.1) : Hp Z a0 (some (EL, vmS, vm1, k1)) h0 hS F0 h' (H ++ L) := by
  obtain ⟨E, K, ⟨w, hZ, C0, hk0⟩, F, I⟩ := A
  have sf : ∀ (i : Nat) (x : Addr × OObj), H[i]? = some x → x.2.1 = 0 → Safe Z EL vm1 h' x.1 := fun i x hi t => C.safe (F i x hi).1.lt ((F i x hi).2.1 t).2.2
  have key : ∀ (k : Nat) (x : Addr × OObj), (H ++ L)[k]? = some x → (k < H.length ∧ H[k]? = some x) ∨ (H.length ≤ k ∧ x ∈ L) := fun k x hk => by
    rw [List.getElem?_append] at hk
    split at hk
    · rename_i q; exact Or.inl ⟨q, hk⟩
    · rename_i q; exact Or.inr ⟨Nat.le_of_not_lt q, List.mem_of_getElem? hk⟩
  refine ⟨⟨Nat.le_trans E.1 E'.1, fun x c hx => E'.2 x c (E.2 x c hx)⟩, K.ext E', ⟨w, hZ1, C0.trans C, hk⟩, fun k x hk => ?_, fun i j x z hi hj e t => ?_⟩
  · rcases key k x hk with ⟨-, q⟩ | ⟨-, q⟩
    · obtain ⟨r1, r2, r3⟩ := F k x q
      exact ⟨r1.ext E', fun t => ⟨(r2 t).1, (r2 t).2.1, sf k x q t⟩, r3⟩
    · obtain ⟨r1, r2, -⟩ := hL x q
      exact ⟨r1, fun t => by rw [r2] at t; exact absurd t (by decide), fun t => by rw [r2] at t; exact absurd t (by decide)⟩
  · rcases key i x hi with ⟨-, q1⟩ | ⟨-, q1⟩ <;> rcases key j z hj with ⟨-, q2⟩ | ⟨-, q2⟩
    · exact I i j x z q1 q2 e t
    · have t2 := (hL z q2).2.1
      have tx : x.2.1 = 0 := t.resolve_right (by rw [t2]; decide)
      exact absurd e ((hL z q2).2.2 _ (sf i x q1 tx))
    · have t2 := (hL x q1).2.1
      have tz : z.2.1 = 0 := t.resolve_left (by rw [t2]; decide)
      exact absurd e.symm ((hL x q1).2.2 _ (sf j z q2 tz))
    · have t1 := (hL x q1).2.1
      have t2 := (hL z q2).2.1
      rcases t with t | t
      · rw [t1] at t; exact absurd t (by decide)
      · rw [t2] at t; exact absurd t (by decide)
theorem OKa.ofArv {a : Addr} {k : ClassId} {ty : FieldType} {z : Int32} {vs : List Value} {d : Value} (A : Arv Z h a k ty z vs d) (hl : z.toNatClampNeg = vs.length) : OKa Z h a "" ty vs := by
  obtain ⟨c, A, -, hs, hz, H, G⟩ := A
  have e : c.slots.size = vs.length := hs.trans hl
  refine ⟨c, A, ?_, ?_, Or.inl rfl, fun v hv => ?_⟩
  · apply Array.ext_getElem?
    intro i
    by_cases q : i < c.slots.size
    · rw [H i q]; simp [List.getD_eq_getElem?_getD, List.getElem?_eq_getElem (e ▸ q)]
    · rw [Array.getElem?_eq_none (by omega), Array.getElem?_eq_none (by simp; omega)]
  · rw [← hl]; exact (back32 hz).2
  · obtain ⟨i, hi⟩ := List.mem_iff_getElem?.mp hv
    have hlt := (List.getElem?_eq_some_iff.mp hi).1
    have := G i (by omega)
    rw [List.getD_eq_getElem?_getD, hi] at this
    exact this
/-- a String constant of EL, read -/
theorem Goes.ldcR (X : Cx p (s0.setVm vm0) m meth c Z y code maxL ret) {index : Nat} {text : String} (n : Nat) (vs : List Value) (z : Int32) (w : (Jvm.Cond.stringLink y.cls index text).before a0 Z = true) (wS : ∀ a ∈ Bundle.stringAtoms, a.before a0 Z = true) (hmem : (y.cls, index) ∈ EL)
    (hLv : Laid Z a0 "java/lang/String" "java/lang/String" "value" "[B") (hLc : Laid Z a0 "java/lang/String" "java/lang/String" "coder" "B") (ht : (∀ c ∈ text.toList, c.toNat < 256) ∧ text.toList.map (fun c => Value.int (Jvm.Lit.byteI c.toNat.toUInt16)) = vs) (hz : ¬ z < 0) (hl : z.toNatClampNeg = vs.length) (hn : 4 * text.toList.length ≤ n)
    (k : ∀ a b vm1 k1, Cx p (s0.setVm vm1) m meth c Z y code maxL ret → Goes p l e R (s0.setVm vm1) m args below meth c Z a0 (some (EL, vmS, vm1, k1)) s0 h0 hS F0 rc rs Q (H ++ [(a, 2, Sum.inl ("java/lang/String", [("java/lang/String", "value", "[B", .ref b), ("java/lang/String", "coder", "B", .int 0)])), (b, 2, Sum.inr ("", .byte, vs))]) (cells + 2) (slots + (n + 4)) (mkF m (pc + 2) Ls (.ref a :: st)))
    (hd : oAt code pc (.ldc index, 2) = true := by decide +kernel) (hbig : n ≤ 536870912 := by decide) (hc : cells + 2 ≤ R.cells := by decide) (hsl : slots + (n + 4) ≤ R.slots := by decide) :
    Goes p l e R (s0.setVm vm0) m args below meth c Z a0 (some (EL, vmS, vm0, k0)) s0 h0 hS F0 rc rs Q H cells slots (mkF m pc Ls st) := fun T locs S Y N A => by
  obtain ⟨a, T', h', k1, b, kk, Y', e', E', hSi, hk1, hZ1, hf1, r1, r2, r3, r4, r5, r6, C, -, hne, st'⟩ := ldcCH Y X.1 X.2.2.2.2.2.2.2 X.2.2.2.1 w wS rfl S.2 A.2.2.1.2.2.2 A.2.2.1.1 hmem A.2.2.1.2.2.1.1 ht hz hl (g := mkF m pc Ls st) rfl (hb X.2.1 (oAt.dec hd)) hn hbig hc hsl
  have X' : Cx p (s0.setVm T'.vm) m meth c Z y code maxL ret := ⟨X.1, X.2.1, X.2.2.1, hf1, X.2.2.2.2.1, X.2.2.2.2.2.1, X.2.2.2.2.2.2.1, hZ1⟩
  refine (k a b T'.vm k1 X' T' locs ⟨rfl, hSi⟩ Y' N ?_).via st'
  rw [e']
  refine A.lit hZ1 E' C hk1 fun x hx => ?_
  rcases List.mem_cons.mp hx with rfl | hx
  · exact ⟨⟨r1, List.forall_mem_cons.mpr ⟨⟨hLv, ⟨.array .byte, show parseFieldDescriptor "[B" = _ from by decide +kernel⟩, r3⟩, List.forall_mem_cons.mpr ⟨⟨hLc, ⟨.byte, by decide +kernel⟩, r2⟩, fun _ q => nomatch q⟩⟩⟩, rfl, fun q s => (hne q s).1⟩
  · cases List.mem_singleton.mp hx
    exact ⟨OKa.ofArv r4 hl, rfl, fun q s => (hne q s).2⟩
/-- a String constant, not read -/
theorem Goes.ldcO (X : Cx p (s0.setVm vm0) m meth c Z y code maxL ret) {index : Nat} {text : String} (n : Nat) (w : (Jvm.Cond.stringLink y.cls index text).before a0 Z = true) (wS : ∀ a ∈ Bundle.stringAtoms, a.before a0 Z = true) (hn : 4 * text.toList.length ≤ n)
    (k : ∀ a vm1 k1, Cx p (s0.setVm vm1) m meth c Z y code maxL ret → Goes p l e R (s0.setVm vm1) m args below meth c Z a0 (some (EL, vmS, vm1, k1)) s0 h0 hS F0 rc rs Q H (cells + 2) (slots + (n + 4)) (mkF m (pc + 2) Ls (.ref a :: st)))
    (hd : oAt code pc (.ldc index, 2) = true := by decide +kernel) (hbig : n ≤ 536870912 := by decide) (hc : cells + 2 ≤ R.cells := by decide) (hsl : slots + (n + 4) ≤ R.slots := by decide) :
    Goes p l e R (s0.setVm vm0) m args below meth c Z a0 (some (EL, vmS, vm0, k0)) s0 h0 hS F0 rc rs Q H cells slots (mkF m pc Ls st) := fun T locs S Y N A => by
  obtain ⟨a, T', h', k1, Y', e', E', hSi, hk1, hZ1, hf1, C, -, st'⟩ := ldcOH Y X.1 X.2.2.2.2.2.2.2 X.2.2.2.1 w wS rfl S.2 A.2.2.1.2.2.2 A.2.2.1.1 A.2.2.1.2.2.1.1 (g := mkF m pc Ls st) rfl (hb X.2.1 (oAt.dec hd)) hn hbig hc hsl
  have X' : Cx p (s0.setVm T'.vm) m meth c Z y code maxL ret := ⟨X.1, X.2.1, X.2.2.1, hf1, X.2.2.2.2.1, X.2.2.2.2.2.1, X.2.2.2.2.2.2.1, hZ1⟩
  refine (k a T'.vm k1 X' T' locs ⟨rfl, hSi⟩ Y' N ?_).via st'
  rw [e']
  have q := A.lit (L := []) hZ1 E' C hk1 (fun x hx => nomatch hx)
  rwa [List.append_nil] at q
end Lits
theorem Hp.startW (s : State) (a0 : Array Value) (EL : List (String × Nat)) (E : EW s a0 EL) (hh : ∀ p ∈ EL, Jvm.Lit.constHeld s p.1 p.2) (hcw : Jvm.Lit.compactW.before a0 s = true) (wa : (Jvm.Cond.arrayClass .byte).before a0 s = true) (wi : (Jvm.Cond.instantiable "java/lang/String" 4).before a0 s = true) : Hp s a0 (some (EL, s.vm, s.vm, s.heap.size)) s.heap s.heap [] s.heap [] :=
  ⟨⟨Nat.le_refl _, fun _ _ q => q⟩, Keep.refl _ _, ⟨E, State.Warmed39.refl s, CHr.refl (CHv.start E hh hcw wa wi), Nat.le_refl _⟩, fun i x q => by simp at q, fun i j x y q => by simp at q⟩
abbrev o_Dig (v0 v1 v2 v3 v4 v5 v6 v7 v8 v9 v10 : Value) : OObj := ob "com/example/yuanterm/yuanterm/Decimals$Digits" [("com/example/yuanterm/yuanterm/Decimals$Digits", "state", "I", v0), ("com/example/yuanterm/yuanterm/Decimals$Digits", "ended", "Z", v1), ("com/example/yuanterm/yuanterm/Decimals$Digits", "significant", "J", v2), ("com/example/yuanterm/yuanterm/Decimals$Digits", "places", "J", v3), ("com/example/yuanterm/yuanterm/Decimals$Digits", "negativeExponent", "Z", v4), ("com/example/yuanterm/yuanterm/Decimals$Digits", "exponentDigits", "I", v5), ("com/example/yuanterm/yuanterm/Decimals$Digits", "exponent", "J", v6), ("com/example/yuanterm/yuanterm/Decimals$Digits", "unscaled", "Ljava/lang/StringBuilder;", v7), ("com/example/yuanterm/yuanterm/Decimals$Digits", "head", "Ljava/lang/StringBuilder;", v8), ("com/example/yuanterm/yuanterm/Decimals$Digits", "headState", "I", v9), ("com/example/yuanterm/yuanterm/Decimals$Digits", "kept", "I", v10)]
theorem nd_Dig : (["state", "ended", "significant", "places", "negativeExponent", "exponentDigits", "exponent", "unscaled", "head", "headState", "kept"] : List String).Nodup := by decide +kernel
theorem new_Dig {Z : State} {a0 : Array Value} (hw : ∀ d ∈ tables_1, d.before a0 Z = true) : ∀ f ∈ ([("com/example/yuanterm/yuanterm/Decimals$Digits", "state", "I", .int 0), ("com/example/yuanterm/yuanterm/Decimals$Digits", "ended", "Z", .int 0), ("com/example/yuanterm/yuanterm/Decimals$Digits", "significant", "J", .long 0), ("com/example/yuanterm/yuanterm/Decimals$Digits", "places", "J", .long 0), ("com/example/yuanterm/yuanterm/Decimals$Digits", "negativeExponent", "Z", .int 0), ("com/example/yuanterm/yuanterm/Decimals$Digits", "exponentDigits", "I", .int 0), ("com/example/yuanterm/yuanterm/Decimals$Digits", "exponent", "J", .long 0), ("com/example/yuanterm/yuanterm/Decimals$Digits", "unscaled", "Ljava/lang/StringBuilder;", .null), ("com/example/yuanterm/yuanterm/Decimals$Digits", "head", "Ljava/lang/StringBuilder;", .null), ("com/example/yuanterm/yuanterm/Decimals$Digits", "headState", "I", .int 0), ("com/example/yuanterm/yuanterm/Decimals$Digits", "kept", "I", .int 0)] : List OFld), Laid Z a0 "com/example/yuanterm/yuanterm/Decimals$Digits" f.1 f.2.1 f.2.2.1 ∧ ∃ t, parseFieldDescriptor f.2.2.1 = some t ∧ f.2.2.2 = defaultValue t := List.forall_mem_cons.mpr ⟨⟨Or.inl (wd hw 16 rfl), .int, by decide +kernel, rfl⟩, List.forall_mem_cons.mpr ⟨⟨Or.inl (wd hw 56 rfl), .boolean, by decide +kernel, rfl⟩, List.forall_mem_cons.mpr ⟨⟨Or.inl (wd hw 126 rfl), .long, by decide +kernel, rfl⟩, List.forall_mem_cons.mpr ⟨⟨Or.inl (wd hw 150 rfl), .long, by decide +kernel, rfl⟩, List.forall_mem_cons.mpr ⟨⟨Or.inl (wd hw 152 rfl), .boolean, by decide +kernel, rfl⟩, List.forall_mem_cons.mpr ⟨⟨Or.inl (wd hw 154 rfl), .int, by decide +kernel, rfl⟩, List.forall_mem_cons.mpr ⟨⟨Or.inl (wd hw 157 rfl), .long, by decide +kernel, rfl⟩, List.forall_mem_cons.mpr ⟨⟨Or.inr (wd hw 38 rfl), (.object "java/lang/StringBuilder"), by decide +kernel, rfl⟩, List.forall_mem_cons.mpr ⟨⟨Or.inr (wd hw 40 rfl), (.object "java/lang/StringBuilder"), by decide +kernel, rfl⟩, List.forall_mem_cons.mpr ⟨⟨Or.inl (wd hw 42 rfl), .int, by decide +kernel, rfl⟩, List.forall_mem_cons.mpr ⟨⟨Or.inr (wd hw 44 rfl), .int, by decide +kernel, rfl⟩, fun _ q => nomatch q⟩⟩⟩⟩⟩⟩⟩⟩⟩⟩⟩
abbrev o_SB (v0 v1 v2 : Value) : OObj := ob "java/lang/StringBuilder" [("java/lang/AbstractStringBuilder", "value", "[B", v0), ("java/lang/AbstractStringBuilder", "coder", "B", v1), ("java/lang/AbstractStringBuilder", "count", "I", v2)]
theorem nd_SB : (["value", "coder", "count"] : List String).Nodup := by decide +kernel
theorem new_SB {Z : State} {a0 : Array Value} (hw : ∀ d ∈ tables_1, d.before a0 Z = true) : ∀ f ∈ ([("java/lang/AbstractStringBuilder", "value", "[B", .null), ("java/lang/AbstractStringBuilder", "coder", "B", .int 0), ("java/lang/AbstractStringBuilder", "count", "I", .int 0)] : List OFld), Laid Z a0 "java/lang/StringBuilder" f.1 f.2.1 f.2.2.1 ∧ ∃ t, parseFieldDescriptor f.2.2.1 = some t ∧ f.2.2.2 = defaultValue t := List.forall_mem_cons.mpr ⟨⟨Or.inl (wd hw 34 rfl), (.array .byte), by decide +kernel, rfl⟩, List.forall_mem_cons.mpr ⟨⟨Or.inl (wd hw 36 rfl), .byte, by decide +kernel, rfl⟩, List.forall_mem_cons.mpr ⟨⟨Or.inl (wd hw 120 rfl), .int, by decide +kernel, rfl⟩, fun _ q => nomatch q⟩⟩⟩
abbrev y_0 : MethodName := ⟨"com/example/yuanterm/yuanterm/DigitsIsPlainPinLaw", "pick", "(I)C"⟩
theorem pd_y_0 : parseMethodDescriptor y_0.desc = some ⟨[.int], some .char⟩ := by decide +kernel
abbrev y_1 : MethodName := ⟨"com/example/yuanterm/yuanterm/Decimals$Digits", "<init>", "(I)V"⟩
theorem pd_y_1 : parseMethodDescriptor y_1.desc = some ⟨[.int], none⟩ := by decide +kernel
abbrev y_2 : MethodName := ⟨"java/lang/StringBuilder", "<init>", "()V"⟩
theorem pd_y_2 : parseMethodDescriptor y_2.desc = some ⟨[], none⟩ := by decide +kernel
abbrev y_3 : MethodName := ⟨"java/lang/AbstractStringBuilder", "<init>", "(I)V"⟩
theorem pd_y_3 : parseMethodDescriptor y_3.desc = some ⟨[.int], none⟩ := by decide +kernel
abbrev y_4 : MethodName := ⟨"com/example/yuanterm/yuanterm/Decimals$Digits", "isPlain", "()Z"⟩
theorem pd_y_4 : parseMethodDescriptor y_4.desc = some ⟨[], some .boolean⟩ := by decide +kernel
abbrev y_5 : MethodName := ⟨"com/example/yuanterm/yuanterm/Decimals$Digits", "isDecimal", "()Z"⟩
theorem pd_y_5 : parseMethodDescriptor y_5.desc = some ⟨[], some .boolean⟩ := by decide +kernel
abbrev y_6 : MethodName := ⟨"com/example/yuanterm/yuanterm/DigitsIsPlainPinLaw", "badAt", "([CIII)I"⟩
theorem pd_y_6 : parseMethodDescriptor y_6.desc = some ⟨[(.array .char), .int, .int, .int], some .int⟩ := by decide +kernel
abbrev y_7 : MethodName := ⟨"com/example/yuanterm/yuanterm/DigitsIsPlainPinLaw", "dotAt", "([CII)I"⟩
theorem pd_y_7 : parseMethodDescriptor y_7.desc = some ⟨[(.array .char), .int, .int], some .int⟩ := by decide +kernel
abbrev y_8 : MethodName := ⟨"com/example/yuanterm/yuanterm/DigitsIsPlainPinLaw", "firstDot", "([CI)I"⟩
theorem pd_y_8 : parseMethodDescriptor y_8.desc = some ⟨[(.array .char), .int], some .int⟩ := by decide +kernel
abbrev y_9 : MethodName := ⟨"com/example/yuanterm/yuanterm/Decimals$Digits", "add", "(C)Z"⟩
theorem pd_y_9 : parseMethodDescriptor y_9.desc = some ⟨[.char], some .boolean⟩ := by decide +kernel
abbrev y_10 : MethodName := ⟨"com/example/yuanterm/yuanterm/Decimals", "isDigit", "(C)Z"⟩
theorem pd_y_10 : parseMethodDescriptor y_10.desc = some ⟨[.char], some .boolean⟩ := by decide +kernel
abbrev y_11 : MethodName := ⟨"com/example/yuanterm/yuanterm/DigitsIsPlainPinLaw", "isDigit", "(C)Z"⟩
theorem pd_y_11 : parseMethodDescriptor y_11.desc = some ⟨[.char], some .boolean⟩ := by decide +kernel
abbrev y_12 : MethodName := ⟨"java/lang/String", "charAt", "(I)C"⟩
theorem pd_y_12 : parseMethodDescriptor y_12.desc = some ⟨[.int], some .char⟩ := by decide +kernel
abbrev y_13 : MethodName := ⟨"java/lang/String", "isLatin1", "()Z"⟩
theorem pd_y_13 : parseMethodDescriptor y_13.desc = some ⟨[], some .boolean⟩ := by decide +kernel
abbrev y_14 : MethodName := ⟨"java/lang/StringLatin1", "charAt", "([BI)C"⟩
theorem pd_y_14 : parseMethodDescriptor y_14.desc = some ⟨[(.array .byte), .int], some .char⟩ := by decide +kernel
abbrev y_15 : MethodName := ⟨"java/lang/String", "checkIndex", "(II)V"⟩
theorem pd_y_15 : parseMethodDescriptor y_15.desc = some ⟨[.int, .int], none⟩ := by decide +kernel
abbrev y_16 : MethodName := ⟨"jdk/internal/util/Preconditions", "checkIndex", "(IILjava/util/function/BiFunction;)I"⟩
theorem pd_y_16 : parseMethodDescriptor y_16.desc = some ⟨[.int, .int, (.object "java/util/function/BiFunction")], some .int⟩ := by decide +kernel
abbrev y_17 : MethodName := ⟨"java/lang/StringBuilder", "length", "()I"⟩
theorem pd_y_17 : parseMethodDescriptor y_17.desc = some ⟨[], some .int⟩ := by decide +kernel
abbrev y_18 : MethodName := ⟨"java/lang/AbstractStringBuilder", "length", "()I"⟩
theorem pd_y_18 : parseMethodDescriptor y_18.desc = some ⟨[], some .int⟩ := by decide +kernel
abbrev y_19 : MethodName := ⟨"com/example/yuanterm/yuanterm/Decimals$Digits", "significant", "(C)V"⟩
theorem pd_y_19 : parseMethodDescriptor y_19.desc = some ⟨[.char], none⟩ := by decide +kernel
abbrev y_20 : MethodName := ⟨"java/lang/StringBuilder", "append", "(C)Ljava/lang/StringBuilder;"⟩
theorem pd_y_20 : parseMethodDescriptor y_20.desc = some ⟨[.char], some (.object "java/lang/StringBuilder")⟩ := by decide +kernel
abbrev y_21 : MethodName := ⟨"java/lang/AbstractStringBuilder", "append", "(C)Ljava/lang/AbstractStringBuilder;"⟩
theorem pd_y_21 : parseMethodDescriptor y_21.desc = some ⟨[.char], some (.object "java/lang/AbstractStringBuilder")⟩ := by decide +kernel
abbrev y_22 : MethodName := ⟨"java/lang/AbstractStringBuilder", "ensureCapacityInternal", "(I)V"⟩
theorem pd_y_22 : parseMethodDescriptor y_22.desc = some ⟨[.int], none⟩ := by decide +kernel
abbrev y_23 : MethodName := ⟨"java/lang/AbstractStringBuilder", "isLatin1", "()Z"⟩
theorem pd_y_23 : parseMethodDescriptor y_23.desc = some ⟨[], some .boolean⟩ := by decide +kernel
abbrev y_24 : MethodName := ⟨"java/lang/StringLatin1", "canEncode", "(C)Z"⟩
theorem pd_y_24 : parseMethodDescriptor y_24.desc = some ⟨[.char], some .boolean⟩ := by decide +kernel
abbrev oBs (bs : List Value) : OObj := ar "[B" .byte bs
theorem own_nb (z : Int32) : nar .byte (oI2b z) = oI2b z := by simp [nar, oI2b]
theorem own_cap : ∀ k : Nat, k < 16 → ifCond.holds .le ((Int32.ofNat k + 1) - ((16 : Int32) >>> ((0 : Int32) &&& 31))) = true := by decide
theorem own_k60 : ∀ k : Nat, k < 16 → if_icmp.holds .gt (Int32.ofNat k) 60 = false := by decide
theorem own_kn : ∀ k : Nat, k < 16 → (Int32.ofNat k).toNatClampNeg = k ∧ ¬ (Int32.ofNat k) < 0 ∧ Int32.ofNat k + 1 = Int32.ofNat (k + 1) := by decide
theorem pf_0 : parseFieldDescriptor "[B" = some (.array .byte) := by decide +kernel
theorem pf_1 : parseFieldDescriptor "B" = some .byte := by decide +kernel
set_option maxRecDepth 65536 in
set_option maxHeartbeats 40000000 in
theorem D_asbi (l : Launch) (Z : State) (a0 : Array Value) (h0 : Heap) (hw : ∀ d ∈ tables_1, d.before a0 Z = true) (cs : Int32) (hCS : Sta Z h0 "java/lang/String" "COMPACT_STRINGS" "Z" (.int cs)) (hcs : ¬ cs = 0) (a : Addr) : Does l Z a0 h0 y_3 jdk_68_method_2_code 2 none ({ frames := 1, cells := 1, slots := 16, locals := 12 } : Room) #[.ref a, .int 16] [(a, o_SB .null (.int 0) (.int 0))] (fun v F => ∃ b, v = none ∧ F = [(a, o_SB (.ref b) (.int 0) (.int 0)), (b, oBs (List.replicate 16 (.int 0)))]) := by
  refine Does.mk #[.val (.ref a), .val (.int 16)] (plainFor_of_name (by decide +kernel)) (fun m => by first | (simp [entryFrame, mkF, argsToLocals, Value.category]; done) | rfl) ?_
  intro p e s m args below meth c h X
  show Goes _ _ _ _ _ _ _ _ _ _ _ _ _ _ _ _ _ _ _ _ [(a, o_SB .null (.int 0) (.int 0))] 0 0 (mkF m 0 #[.val (.ref a), .val (.int 16)] [])
  refine Goes.runS X [(.aload_n 0, 1)] (S' := [.ref a]) (pc' := 1) rfl ?_
  refine Goes.initO X 0 (wd hw 29 rfl) (wd hw 13 rfl) (wd hw 14 rfl) rfl ?_
  refine Goes.getS X (wd hw 30 rfl) Via.refl hCS ?_
  refine Goes.if1 X (pc' := 25) (o := 18) (cd := .eq) (fun q => absurd (q.symm.trans (by simpa [ifCond.holds] using hcs : ifCond.holds .eq cs = false)) (by decide)) (fun _ => ?_)
  refine Goes.runS X [(.aload_n 0, 1), (.iload_n 1, 1)] (S' := [.int 16, .ref a]) (pc' := 12) rfl ?_
  refine Goes.newarr X (aty := .byte) "[B" 16 16 (wd hw 32 rfl) (by decide +kernel) (by decide) (by decide) (fun b1 => ?_)
  show Goes _ _ _ _ _ _ _ _ _ _ _ _ _ _ _ _ _ _ _ _ [(a, o_SB .null (.int 0) (.int 0)), (b1, oBs (List.replicate 16 (.int 0)))] 1 16 (mkF m 14 #[.val (.ref a), .val (.int 16)] [.ref b1, .ref a])
  refine Goes.putF X 0 0 rfl rfl (wd hw 33 rfl) Via.refl (Or.inl (wd hw 34 rfl)) (wd hw 18 rfl) (own_hn rfl rfl nd_SB) (ty := (.array .byte)) pf_0 rfl rfl ?_
  refine Goes.runS X [(.aload_n 0, 1), (.iconst 0, 1)] (S' := [.int (0 : Int32), .ref a]) (pc' := 19) rfl ?_
  refine Goes.putF X 0 1 rfl rfl (wd hw 35 rfl) Via.refl (Or.inl (wd hw 36 rfl)) (wd hw 18 rfl) (own_hn rfl rfl nd_SB) (ty := .byte) pf_1 rfl rfl ?_
  refine Goes.goto X (o := 16) (pc' := 38) ?_
  refine Goes.retV X ?_
  exact ⟨b1, rfl, rfl⟩
set_option maxRecDepth 65536 in
set_option maxHeartbeats 40000000 in
theorem D_sbi (l : Launch) (Z : State) (a0 : Array Value) (h0 : Heap) (hw : ∀ d ∈ tables_1, d.before a0 Z = true) (cs : Int32) (hCS : Sta Z h0 "java/lang/String" "COMPACT_STRINGS" "Z" (.int cs)) (hcs : ¬ cs = 0) (a : Addr) : Does l Z a0 h0 y_2 jdk_67_method_1_code 1 none ({ frames := 2, cells := 1, slots := 16, locals := 25 } : Room) #[.ref a] [(a, o_SB .null (.int 0) (.int 0))] (fun v F => ∃ b, v = none ∧ F = [(a, o_SB (.ref b) (.int 0) (.int 0)), (b, oBs (List.replicate 16 (.int 0)))]) := by
  refine Does.mk #[.val (.ref a)] (plainFor_of_name (by decide +kernel)) (fun m => by first | (simp [entryFrame, mkF, argsToLocals, Value.category]; done) | rfl) ?_
  intro p e s m args below meth c h X
  show Goes _ _ _ _ _ _ _ _ _ _ _ _ _ _ _ _ _ _ _ _ [(a, o_SB .null (.int 0) (.int 0))] 0 0 (mkF m 0 #[.val (.ref a)] [])
  refine Goes.runS X [(.aload_n 0, 1), (.bipush 16, 2)] (S' := [.int (16 : Int32), .ref a]) (pc' := 3) rfl ?_
  refine Goes.callN X 0 [0] [] (D_asbi l Z a0 h0 hw cs hCS hcs a) rfl (wd hw 23 rfl) (wd hw 24 rfl) (wd hw 27 rfl) (wd hw 28 rfl) pd_y_3 rfl (st := []) rfl rfl (G := []) rfl rfl ?_
  rintro _ _ ⟨b2, rfl, rfl⟩
  refine ⟨Or.inl rfl, ?_⟩
  refine Goes.retV X ?_
  exact ⟨b2, rfl, rfl⟩
theorem pf_2 : parseFieldDescriptor "I" = some .int := by decide +kernel
theorem pf_3 : parseFieldDescriptor "Ljava/lang/StringBuilder;" = some (.object "java/lang/StringBuilder") := by decide +kernel
set_option maxRecDepth 65536 in
set_option maxHeartbeats 40000000 in
theorem D_dctor (l : Launch) (Z : State) (a0 : Array Value) (h0 : Heap) (hw : ∀ d ∈ tables_1, d.before a0 Z = true) (cs : Int32) (hCS : Sta Z h0 "java/lang/String" "COMPACT_STRINGS" "Z" (.int cs)) (hcs : ¬ cs = 0) (a : Addr) : Does l Z a0 h0 y_1 prog_28_method_1_code 2 none ({ frames := 3, cells := 4, slots := 40, locals := 39 } : Room) #[.ref a, .int 0] [(a, o_Dig (.int 0) (.int 0) (.long 0) (.long 0) (.int 0) (.int 0) (.long 0) .null .null (.int 0) (.int 0))] (fun v F => ∃ u b h b2, v = none ∧ F = [(a, o_Dig (.int 0) (.int 0) (.long 0) (.long 0) (.int 0) (.int 0) (.long 0) (.ref u) (.ref h) (.int 0) (.int 0)), (u, o_SB (.ref b) (.int 0) (.int 0)), (b, oBs (List.replicate 16 (.int 0))), (h, o_SB (.ref b2) (.int 0) (.int 0))]) := by
  refine Does.mk #[.val (.ref a), .val (.int 0)] (plainFor_of_name (by decide +kernel)) (fun m => by first | (simp [entryFrame, mkF, argsToLocals, Value.category]; done) | rfl) ?_
  intro p e s m args below meth c h X
  show Goes _ _ _ _ _ _ _ _ _ _ _ _ _ _ _ _ _ _ _ _ [(a, o_Dig (.int 0) (.int 0) (.long 0) (.long 0) (.int 0) (.int 0) (.long 0) .null .null (.int 0) (.int 0))] 0 0 (mkF m 0 #[.val (.ref a), .val (.int 0)] [])
  refine Goes.runS X [(.aload_n 0, 1)] (S' := [.ref a]) (pc' := 1) rfl ?_
  refine Goes.initO X 0 (wd hw 12 rfl) (wd hw 13 rfl) (wd hw 14 rfl) rfl ?_
  refine Goes.runS X [(.aload_n 0, 1), (.iconst 0, 1)] (S' := [.int (0 : Int32), .ref a]) (pc' := 6) rfl ?_
  refine Goes.putF X 0 0 rfl rfl (wd hw 15 rfl) Via.refl (Or.inl (wd hw 16 rfl)) (wd hw 7 rfl) (own_hn rfl rfl nd_Dig) (ty := .int) pf_2 rfl rfl ?_
  refine Goes.runS X [(.aload_n 0, 1)] (S' := [.ref a]) (pc' := 10) rfl ?_
  refine Goes.new X _ (wd hw 17 rfl) (wd hw 18 rfl) (wd hw 19 rfl) (new_SB hw) (fun a3 => ?_)
  refine Goes.runS X [(.dup, 1)] (S' := [.ref a3, .ref a3, .ref a]) (pc' := 14) rfl ?_
  refine Goes.callN X 2 [1] [0] (D_sbi l Z a0 h0 hw cs hCS hcs a3) rfl (wd hw 20 rfl) (wd hw 21 rfl) (wd hw 19 rfl) (wd hw 22 rfl) pd_y_2 rfl (st := [.ref a3, .ref a]) rfl rfl (G := [(a, o_Dig (.int (0 : Int32)) (.int 0) (.long 0) (.long 0) (.int 0) (.int 0) (.long 0) .null .null (.int 0) (.int 0))]) rfl rfl ?_
  rintro _ _ ⟨b4, rfl, rfl⟩
  refine ⟨Or.inl rfl, ?_⟩
  refine Goes.putF X 2 7 rfl rfl (wd hw 37 rfl) Via.refl (Or.inr ⟨(wd hw 38 rfl), rfl, rfl⟩) (wd hw 7 rfl) (own_hn rfl rfl nd_Dig) (ty := (.object "java/lang/StringBuilder")) pf_3 rfl rfl ?_
  refine Goes.runS X [(.aload_n 0, 1)] (S' := [.ref a]) (pc' := 21) rfl ?_
  refine Goes.new X _ (wd hw 17 rfl) (wd hw 18 rfl) (wd hw 19 rfl) (new_SB hw) (fun a5 => ?_)
  refine Goes.runS X [(.dup, 1)] (S' := [.ref a5, .ref a5, .ref a]) (pc' := 25) rfl ?_
  refine Goes.callN X 2 [3] [0, 1, 2] (D_sbi l Z a0 h0 hw cs hCS hcs a5) rfl (wd hw 20 rfl) (wd hw 21 rfl) (wd hw 19 rfl) (wd hw 22 rfl) pd_y_2 rfl (st := [.ref a5, .ref a]) rfl rfl (G := [(a3, o_SB (.ref b4) (.int 0) (.int 0)), (b4, oBs (List.replicate 16 (.int 0))), (a, o_Dig (.int (0 : Int32)) (.int 0) (.long 0) (.long 0) (.int 0) (.int 0) (.long 0) (.ref a3) .null (.int 0) (.int 0))]) rfl rfl ?_
  rintro _ _ ⟨b6, rfl, rfl⟩
  refine ⟨Or.inl rfl, ?_⟩
  refine Goes.putF X 4 8 rfl rfl (wd hw 39 rfl) Via.refl (Or.inr ⟨(wd hw 40 rfl), rfl, rfl⟩) (wd hw 7 rfl) (own_hn rfl rfl nd_Dig) (ty := (.object "java/lang/StringBuilder")) pf_3 rfl rfl ?_
  refine Goes.runS X [(.aload_n 0, 1), (.iconst 0, 1)] (S' := [.int (0 : Int32), .ref a]) (pc' := 33) rfl ?_
  refine Goes.putF X 4 9 rfl rfl (wd hw 41 rfl) Via.refl (Or.inl (wd hw 42 rfl)) (wd hw 7 rfl) (own_hn rfl rfl nd_Dig) (ty := .int) pf_2 rfl rfl ?_
  refine Goes.runS X [(.aload_n 0, 1), (.iload_n 1, 1)] (S' := [.int 0, .ref a]) (pc' := 38) rfl ?_
  refine Goes.putF X 4 10 rfl rfl (wd hw 43 rfl) Via.refl (Or.inr ⟨(wd hw 44 rfl), rfl, rfl⟩) (wd hw 7 rfl) (own_hn rfl rfl nd_Dig) (ty := .int) pf_2 rfl rfl ?_
  refine Goes.sub [4, 2, 3, 0] (G := [(a, o_Dig (.int (0 : Int32)) (.int 0) (.long 0) (.long 0) (.int 0) (.int 0) (.long 0) (.ref a3) (.ref a5) (.int (0 : Int32)) (.int 0)), (a3, o_SB (.ref b4) (.int 0) (.int 0)), (b4, oBs (List.replicate 16 (.int 0))), (a5, o_SB (.ref b6) (.int 0) (.int 0))]) rfl ?_
  refine Goes.retV X ?_
  exact ⟨a3, b4, a5, b6, rfl, rfl⟩
set_option maxRecDepth 65536 in
set_option maxHeartbeats 40000000 in
theorem D_asbl (l : Launch) (Z : State) (a0 : Array Value) (h0 : Heap) (hw : ∀ d ∈ tables_1, d.before a0 Z = true) (a : Addr) (v0 v1 : Value) (n : Int32) : Does l Z a0 h0 y_18 jdk_68_method_6_code 1 (some .int) ({ frames := 0, cells := 0, slots := 0, locals := 0 } : Room) #[.ref a] [(a, o_SB (v0) (v1) (.int n))] (fun v F => v = some (.int n) ∧ F = [(a, o_SB (v0) (v1) (.int n))]) := by
  refine Does.mk #[.val (.ref a)] (plainFor_of_name (by decide +kernel)) (fun m => by first | (simp [entryFrame, mkF, argsToLocals, Value.category]; done) | rfl) ?_
  intro p e s m args below meth c h X
  show Goes _ _ _ _ _ _ _ _ _ _ _ _ _ _ _ _ _ _ _ _ [(a, o_SB (v0) (v1) (.int n))] 0 0 (mkF m 0 #[.val (.ref a)] [])
  refine Goes.runS X [(.aload_n 0, 1)] (S' := [.ref a]) (pc' := 1) rfl ?_
  refine Goes.getF X 0 2 rfl rfl (wd hw 119 rfl) Via.refl ?_
  refine Goes.retI X (by simp) rfl ?_
  exact ⟨rfl, rfl⟩
set_option maxRecDepth 65536 in
set_option maxHeartbeats 40000000 in
theorem D_sbl (l : Launch) (Z : State) (a0 : Array Value) (h0 : Heap) (hw : ∀ d ∈ tables_1, d.before a0 Z = true) (a : Addr) (v0 v1 : Value) (n : Int32) : Does l Z a0 h0 y_17 jdk_67_method_93_code 1 (some .int) ({ frames := 1, cells := 0, slots := 0, locals := 12 } : Room) #[.ref a] [(a, o_SB (v0) (v1) (.int n))] (fun v F => v = some (.int n) ∧ F = [(a, o_SB (v0) (v1) (.int n))]) := by
  refine Does.mk #[.val (.ref a)] (plainFor_of_name (by decide +kernel)) (fun m => by first | (simp [entryFrame, mkF, argsToLocals, Value.category]; done) | rfl) ?_
  intro p e s m args below meth c h X
  show Goes _ _ _ _ _ _ _ _ _ _ _ _ _ _ _ _ _ _ _ _ [(a, o_SB (v0) (v1) (.int n))] 0 0 (mkF m 0 #[.val (.ref a)] [])
  refine Goes.runS X [(.aload_n 0, 1)] (S' := [.ref a]) (pc' := 1) rfl ?_
  refine Goes.callU X 0 0 [0] [] rfl (D_asbl l Z a0 h0 hw a v0 v1 n) (wd hw 114 rfl) (wd hw 115 rfl) (wd hw 116 rfl) (own_same (wd hw 139 rfl) rfl (wd hw 115 rfl) (by decide)) (by decide) (wd hw 27 rfl) (wd hw 118 rfl) pd_y_18 rfl (st := []) rfl rfl (G := []) rfl rfl ?_
  rintro _ _ ⟨rfl, rfl⟩
  refine ⟨Or.inr (Or.inr fun _ q => Or.inr (Or.inr q)), ?_⟩
  refine Goes.retI X (by simp) rfl ?_
  exact ⟨rfl, rfl⟩
set_option maxRecDepth 65536 in
set_option maxHeartbeats 40000000 in
theorem D_ens (l : Launch) (Z : State) (a0 : Array Value) (h0 : Heap) (hw : ∀ d ∈ tables_1, d.before a0 Z = true) (a b : Addr) (k : Nat) (hk : k < 16) (bs : List Value) (hbs : bs.length = 16) : Does l Z a0 h0 y_22 jdk_68_method_9_code 3 none ({ frames := 0, cells := 0, slots := 0, locals := 0 } : Room) #[.ref a, .int ((Int32.ofNat k) + 1)] [(a, o_SB (.ref b) (.int 0) (.int (Int32.ofNat k))), (b, oBs bs)] (fun v F => v = none ∧ F = [(a, o_SB (.ref b) (.int 0) (.int (Int32.ofNat k))), (b, oBs bs)]) := by
  refine Does.mk #[.val (.ref a), .val (.int ((Int32.ofNat k) + 1)), .unset] (plainFor_of_name (by decide +kernel)) (fun m => by first | (simp [entryFrame, mkF, argsToLocals, Value.category]; done) | rfl) ?_
  intro p e s m args below meth c h X
  show Goes _ _ _ _ _ _ _ _ _ _ _ _ _ _ _ _ _ _ _ _ [(a, o_SB (.ref b) (.int 0) (.int (Int32.ofNat k))), (b, oBs bs)] 0 0 (mkF m 0 #[.val (.ref a), .val (.int ((Int32.ofNat k) + 1)), .unset] [])
  refine Goes.runS X [(.aload_n 0, 1)] (S' := [.ref a]) (pc' := 1) rfl ?_
  refine Goes.getF X 0 0 rfl rfl (wd hw 33 rfl) Via.refl ?_
  refine Goes.alen X 1 (n := 16) rfl (by rw [hbs]; rfl) ?_
  show Goes _ _ _ _ _ _ _ _ _ _ _ _ _ _ _ _ _ _ _ _ [(a, o_SB (.ref b) (.int 0) (.int (Int32.ofNat k))), (b, oBs bs)] 0 0 (mkF m 5 #[.val (.ref a), .val (.int ((Int32.ofNat k) + 1)), .unset] [.int (16 : Int32)])
  refine Goes.runS X [(.aload_n 0, 1)] (S' := [.ref a, .int (16 : Int32)]) (pc' := 6) rfl ?_
  refine Goes.getF X 0 1 rfl rfl (wd hw 35 rfl) Via.refl ?_
  refine Goes.run X [(.ishr, 1), (.istore_n 2, 1), (.iload_n 1, 1), (.iload_n 2, 1), (.isub, 1)] (L' := #[.val (.ref a), .val (.int ((Int32.ofNat k) + 1)), .val (.int ((16 : Int32) >>> ((0 : Int32) &&& 31)))]) (S' := [.int (((Int32.ofNat k) + 1) - ((16 : Int32) >>> ((0 : Int32) &&& 31)))]) (pc' := 14) rfl ?_
  refine Goes.if1 X (pc' := 38) (o := 24) (cd := .le) (fun _ => ?_) (fun q => absurd (q.symm.trans (own_cap k hk)) (by decide))
  refine Goes.retV X ?_
  exact ⟨rfl, rfl⟩
set_option maxRecDepth 65536 in
set_option maxHeartbeats 40000000 in
theorem D_isl (l : Launch) (Z : State) (a0 : Array Value) (h0 : Heap) (hw : ∀ d ∈ tables_1, d.before a0 Z = true) (cs : Int32) (hCS : Sta Z h0 "java/lang/String" "COMPACT_STRINGS" "Z" (.int cs)) (hcs : ¬ cs = 0) (a : Addr) (v0 v2 : Value) : Does l Z a0 h0 y_23 jdk_68_method_68_code 1 (some .boolean) ({ frames := 0, cells := 0, slots := 0, locals := 0 } : Room) #[.ref a] [(a, o_SB (v0) (.int 0) (v2))] (fun v F => v = some (.int 1) ∧ F = [(a, o_SB (v0) (.int 0) (v2))]) := by
  refine Does.mk #[.val (.ref a)] (plainFor_of_name (by decide +kernel)) (fun m => by first | (simp [entryFrame, mkF, argsToLocals, Value.category]; done) | rfl) ?_
  intro p e s m args below meth c h X
  show Goes _ _ _ _ _ _ _ _ _ _ _ _ _ _ _ _ _ _ _ _ [(a, o_SB (v0) (.int 0) (v2))] 0 0 (mkF m 0 #[.val (.ref a)] [])
  refine Goes.getS X (wd hw 30 rfl) Via.refl hCS ?_
  refine Goes.if1 X (pc' := 17) (o := 14) (cd := .eq) (fun q => absurd (q.symm.trans (by simpa [ifCond.holds] using hcs : ifCond.holds .eq cs = false)) (by decide)) (fun _ => ?_)
  refine Goes.runS X [(.aload_n 0, 1)] (S' := [.ref a]) (pc' := 7) rfl ?_
  refine Goes.getF X 0 1 rfl rfl (wd hw 35 rfl) Via.refl ?_
  refine Goes.if1 X (pc' := 17) (o := 7) (cd := .ne) (fun q => absurd q (by decide)) (fun _ => ?_)
  refine Goes.runS X [(.iconst 1, 1)] (S' := [.int (1 : Int32)]) (pc' := 14) rfl ?_
  refine Goes.goto X (o := 4) (pc' := 18) ?_
  refine Goes.retI X (by simp) rfl ?_
  exact ⟨rfl, rfl⟩
set_option maxRecDepth 65536 in
set_option maxHeartbeats 40000000 in
theorem D_can (l : Launch) (Z : State) (a0 : Array Value) (h0 : Heap) (hw : ∀ d ∈ tables_1, d.before a0 Z = true) (c' : Int32) (hc : c' ≤ 255) : Does l Z a0 h0 y_24 jdk_43_method_3_code 1 (some .boolean) ({ frames := 0, cells := 0, slots := 0, locals := 0 } : Room) #[.int c'] [] (fun v F => v = some (.int 1) ∧ F = []) := by
  refine Does.mk #[.val (.int c')] (plainFor_of_name (by decide +kernel)) (fun m => by first | (simp [entryFrame, mkF, argsToLocals, Value.category]; done) | rfl) ?_
  intro p e s m args below meth c h X
  show Goes _ _ _ _ _ _ _ _ _ _ _ _ _ _ _ _ _ _ _ _ [] 0 0 (mkF m 0 #[.val (.int c')] [])
  refine Goes.runS X [(.iload_n 0, 1), (.sipush 255, 3)] (S' := [.int (255 : Int32), .int c']) (pc' := 4) rfl ?_
  refine Goes.if2 X (pc' := 11) (o := 7) (cd := .gt) (fun q => absurd (q.symm.trans (by simpa [if_icmp.holds] using hc : if_icmp.holds .gt c' (255 : Int32) = false)) (by decide)) (fun _ => ?_)
  refine Goes.runS X [(.iconst 1, 1)] (S' := [.int (1 : Int32)]) (pc' := 8) rfl ?_
  refine Goes.goto X (o := 4) (pc' := 12) ?_
  refine Goes.retI X (by simp) rfl ?_
  exact ⟨rfl, rfl⟩
set_option maxRecDepth 65536 in
set_option maxHeartbeats 40000000 in
theorem D_aap (l : Launch) (Z : State) (a0 : Array Value) (h0 : Heap) (hw : ∀ d ∈ tables_1, d.before a0 Z = true) (cs : Int32) (hCS : Sta Z h0 "java/lang/String" "COMPACT_STRINGS" "Z" (.int cs)) (hcs : ¬ cs = 0) (a b : Addr) (k : Nat) (hk : k < 16) (bs : List Value) (hbs : bs.length = 16) (c' : Int32) (hc : c' ≤ 255) : Does l Z a0 h0 y_21 jdk_68_method_31_code 2 (some (.object "java/lang/AbstractStringBuilder")) ({ frames := 1, cells := 0, slots := 0, locals := 14 } : Room) #[.ref a, .int c'] [(a, o_SB (.ref b) (.int 0) (.int (Int32.ofNat k))), (b, oBs bs)] (fun v F => v = some (.ref a) ∧ F = [(a, o_SB (.ref b) (.int 0) (.int (Int32.ofNat (k + 1)))), (b, oBs (bs.set k (.int (oI2b c'))))]) := by
  refine Does.mk #[.val (.ref a), .val (.int c')] (plainFor_of_name (by decide +kernel)) (fun m => by first | (simp [entryFrame, mkF, argsToLocals, Value.category]; done) | rfl) ?_
  intro p e s m args below meth c h X
  show Goes _ _ _ _ _ _ _ _ _ _ _ _ _ _ _ _ _ _ _ _ [(a, o_SB (.ref b) (.int 0) (.int (Int32.ofNat k))), (b, oBs bs)] 0 0 (mkF m 0 #[.val (.ref a), .val (.int c')] [])
  refine Goes.runS X [(.aload_n 0, 1), (.aload_n 0, 1)] (S' := [.ref a, .ref a]) (pc' := 2) rfl ?_
  refine Goes.getF X 0 2 rfl rfl (wd hw 119 rfl) Via.refl ?_
  refine Goes.runS X [(.iconst 1, 1), (.iadd, 1)] (S' := [.int ((Int32.ofNat k) + (1 : Int32)), .ref a]) (pc' := 7) rfl ?_
  refine Goes.callP X 0 0 [0, 1] [] rfl (D_ens l Z a0 h0 hw a b k hk bs hbs) (wd hw 136 rfl) (wd hw 137 rfl) (wd hw 138 rfl) (own_nf X (wd hw 139 rfl)) (wd hw 27 rfl) (wd hw 140 rfl) pd_y_22 rfl (st := []) rfl rfl (G := []) rfl rfl ?_
  rintro _ _ ⟨rfl, rfl⟩
  refine ⟨Or.inr (Or.inr fun _ q => Or.inr (Or.inr q)), ?_⟩
  refine Goes.runS X [(.aload_n 0, 1)] (S' := [.ref a]) (pc' := 11) rfl ?_
  refine Goes.callV X 0 0 [0] [1] rfl (D_isl l Z a0 h0 hw cs hCS hcs a (.ref b) (.int (Int32.ofNat k))) (wd hw 141 rfl) (wd hw 142 rfl) (wd hw 144 rfl) (wd hw 143 rfl) (own_nf X (wd hw 144 rfl)) (wd hw 27 rfl) (wd hw 145 rfl) pd_y_23 rfl (st := []) rfl rfl (G := [(b, oBs bs)]) rfl rfl ?_
  rintro _ _ ⟨rfl, rfl⟩
  refine ⟨Or.inr (Or.inr fun _ q => Or.inr (Or.inr q)), ?_⟩
  refine Goes.if1 X (pc' := 45) (o := 31) (cd := .eq) (fun q => absurd q (by decide)) (fun _ => ?_)
  refine Goes.runS X [(.iload_n 1, 1)] (S' := [.int c']) (pc' := 18) rfl ?_
  refine Goes.callS X 0 [] [0, 1] (D_can l Z a0 h0 hw c' hc) (wd hw 146 rfl) (wd hw 147 rfl) (wd hw 99 rfl) (wd hw 148 rfl) pd_y_24 rfl (st := []) rfl rfl (G := [(a, o_SB (.ref b) (.int 0) (.int (Int32.ofNat k))), (b, oBs bs)]) rfl rfl ?_
  rintro _ _ ⟨rfl, rfl⟩
  refine ⟨Or.inr (Or.inr fun _ q => Or.inr (Or.inr q)), ?_⟩
  refine Goes.if1 X (pc' := 45) (o := 24) (cd := .eq) (fun q => absurd q (by decide)) (fun _ => ?_)
  refine Goes.runS X [(.aload_n 0, 1)] (S' := [.ref a]) (pc' := 25) rfl ?_
  refine Goes.getF X 0 0 rfl rfl (wd hw 33 rfl) Via.refl ?_
  refine Goes.runS X [(.aload_n 0, 1), (.dup, 1)] (S' := [.ref a, .ref a, .ref b]) (pc' := 30) rfl ?_
  refine Goes.getF X 0 2 rfl rfl (wd hw 119 rfl) Via.refl ?_
  refine Goes.runS X [(.dup_x1, 1), (.iconst 1, 1), (.iadd, 1)] (S' := [.int ((Int32.ofNat k) + (1 : Int32)), .ref a, .int (Int32.ofNat k), .ref b]) (pc' := 36) rfl ?_
  refine Goes.putF X 0 2 rfl rfl (wd hw 119 rfl) Via.refl (Or.inl (wd hw 120 rfl)) (wd hw 18 rfl) (own_hn rfl rfl nd_SB) (ty := .int) pf_2 rfl rfl ?_
  refine Goes.runS X [(.iload_n 1, 1), (.i2b, 1)] (S' := [.int (oI2b c'), .int (Int32.ofNat k), .ref b]) (pc' := 41) rfl ?_
  rw [(own_kn k hk).2.2]
  show Goes _ _ _ _ _ _ _ _ _ _ _ _ _ _ _ _ _ _ _ _ [(a, o_SB (.ref b) (.int 0) (.int (Int32.ofNat (k + 1)))), (b, oBs bs)] 0 0 (mkF m 41 #[.val (.ref a), .val (.int c')] [.int (oI2b c'), .int (Int32.ofNat k), .ref b])
  refine Goes.bastore X 1 k rfl (own_kn k hk).1 (own_kn k hk).2.1 (by rw [hbs]; exact hk) ?_
  show Goes _ _ _ _ _ _ _ _ _ _ _ _ _ _ _ _ _ _ _ _ [(a, o_SB (.ref b) (.int 0) (.int (Int32.ofNat (k + 1)))), (b, oBs (bs.set k (.int (nar .byte (oI2b c')))))] 0 0 (mkF m 42 #[.val (.ref a), .val (.int c')] [])
  rw [own_nb]
  show Goes _ _ _ _ _ _ _ _ _ _ _ _ _ _ _ _ _ _ _ _ [(a, o_SB (.ref b) (.int 0) (.int (Int32.ofNat (k + 1)))), (b, oBs (bs.set k (.int (oI2b c'))))] 0 0 (mkF m 42 #[.val (.ref a), .val (.int c')] [])
  refine Goes.goto X (o := 33) (pc' := 75) ?_
  refine Goes.runS X [(.aload_n 0, 1)] (S' := [.ref a]) (pc' := 76) rfl ?_
  refine Goes.retA X rfl rfl rfl ?_
  exact ⟨rfl, rfl⟩
set_option maxRecDepth 65536 in
set_option maxHeartbeats 40000000 in
theorem D_sap (l : Launch) (Z : State) (a0 : Array Value) (h0 : Heap) (hw : ∀ d ∈ tables_1, d.before a0 Z = true) (cs : Int32) (hCS : Sta Z h0 "java/lang/String" "COMPACT_STRINGS" "Z" (.int cs)) (hcs : ¬ cs = 0) (a b : Addr) (k : Nat) (hk : k < 16) (bs : List Value) (hbs : bs.length = 16) (c' : Int32) (hc : c' ≤ 255) : Does l Z a0 h0 y_20 jdk_67_method_14_code 2 (some (.object "java/lang/StringBuilder")) ({ frames := 2, cells := 0, slots := 0, locals := 27 } : Room) #[.ref a, .int c'] [(a, o_SB (.ref b) (.int 0) (.int (Int32.ofNat k))), (b, oBs bs)] (fun v F => v = some (.ref a) ∧ F = [(a, o_SB (.ref b) (.int 0) (.int (Int32.ofNat (k + 1)))), (b, oBs (bs.set k (.int (oI2b c'))))]) := by
  refine Does.mk #[.val (.ref a), .val (.int c')] (plainFor_of_name (by decide +kernel)) (fun m => by first | (simp [entryFrame, mkF, argsToLocals, Value.category]; done) | rfl) ?_
  intro p e s m args below meth c h X
  show Goes _ _ _ _ _ _ _ _ _ _ _ _ _ _ _ _ _ _ _ _ [(a, o_SB (.ref b) (.int 0) (.int (Int32.ofNat k))), (b, oBs bs)] 0 0 (mkF m 0 #[.val (.ref a), .val (.int c')] [])
  refine Goes.runS X [(.aload_n 0, 1), (.iload_n 1, 1)] (S' := [.int c', .ref a]) (pc' := 2) rfl ?_
  refine Goes.callU X 0 0 [0, 1] [] rfl (D_aap l Z a0 h0 hw cs hCS hcs a b k hk bs hbs c' hc) (wd hw 132 rfl) (wd hw 133 rfl) (wd hw 116 rfl) (own_same (wd hw 139 rfl) rfl (wd hw 133 rfl) (by decide)) (by decide) (wd hw 27 rfl) (wd hw 135 rfl) pd_y_21 rfl (st := []) rfl rfl (G := []) rfl rfl ?_
  rintro _ _ ⟨rfl, rfl⟩
  refine ⟨Or.inl rfl, ?_⟩
  refine Goes.runS X [(.pop, 1), (.aload_n 0, 1)] (S' := [.ref a]) (pc' := 7) rfl ?_
  refine Goes.retA X rfl rfl rfl ?_
  exact ⟨rfl, rfl⟩
theorem pf_4 : parseFieldDescriptor "J" = some .long := by decide +kernel
set_option maxRecDepth 65536 in
set_option maxHeartbeats 40000000 in
theorem D_sg (l : Launch) (Z : State) (a0 : Array Value) (h0 : Heap) (hw : ∀ d ∈ tables_1, d.before a0 Z = true) (cs : Int32) (hCS : Sta Z h0 "java/lang/String" "COMPACT_STRINGS" "Z" (.int cs)) (hcs : ¬ cs = 0) (d u h' b : Addr) (st en pl ne ed ex : Value) (sig : Int64) (k : Nat) (hk : k < 16) (bs : List Value) (hbs : bs.length = 16) (c' : Int32) (hc : c' ≤ 255) : Does l Z a0 h0 y_19 prog_28_method_8_code 2 none ({ frames := 3, cells := 0, slots := 0, locals := 40 } : Room) #[.ref d, .int c'] [(d, o_Dig (st) (en) (.long sig) (pl) (ne) (ed) (ex) (.ref u) (.ref h') (.int 0) (.int 0)), (u, o_SB (.ref b) (.int 0) (.int (Int32.ofNat k))), (b, oBs bs)] (fun v F => v = none ∧ F = [(d, o_Dig (st) (en) (.long (sig + 1)) (pl) (ne) (ed) (ex) (.ref u) (.ref h') (.int 0) (.int 0)), (u, o_SB (.ref b) (.int 0) (.int (Int32.ofNat (k + 1)))), (b, oBs (bs.set k (.int (oI2b c'))))]) := by
  refine Does.mk #[.val (.ref d), .val (.int c')] (plainFor_of_name (by decide +kernel)) (fun m => by first | (simp [entryFrame, mkF, argsToLocals, Value.category]; done) | rfl) ?_
  intro p e s m args below meth c h X
  show Goes _ _ _ _ _ _ _ _ _ _ _ _ _ _ _ _ _ _ _ _ [(d, o_Dig (st) (en) (.long sig) (pl) (ne) (ed) (ex) (.ref u) (.ref h') (.int 0) (.int 0)), (u, o_SB (.ref b) (.int 0) (.int (Int32.ofNat k))), (b, oBs bs)] 0 0 (mkF m 0 #[.val (.ref d), .val (.int c')] [])
  refine Goes.runS X [(.aload_n 0, 1), (.dup, 1)] (S' := [.ref d, .ref d]) (pc' := 2) rfl ?_
  refine Goes.getF X 0 2 rfl rfl (wd hw 125 rfl) Via.refl ?_
  refine Goes.runS X [(.lconst 1, 1), (.ladd, 1)] (S' := [.long (sig + (1 : Int64)), .ref d]) (pc' := 7) rfl ?_
  refine Goes.putF X 0 2 rfl rfl (wd hw 125 rfl) Via.refl (Or.inl (wd hw 126 rfl)) (wd hw 7 rfl) (own_hn rfl rfl nd_Dig) (ty := .long) pf_4 rfl rfl ?_
  refine Goes.runS X [(.aload_n 0, 1)] (S' := [.ref d]) (pc' := 11) rfl ?_
  refine Goes.getF X 0 7 rfl rfl (wd hw 37 rfl) Via.refl ?_
  refine Goes.callV X 0 1 [1] [0, 2] rfl (D_sbl l Z a0 h0 hw u (.ref b) (.int 0) (Int32.ofNat k)) (wd hw 109 rfl) (wd hw 110 rfl) (wd hw 112 rfl) (wd hw 111 rfl) (own_nf X (wd hw 112 rfl)) (wd hw 19 rfl) (wd hw 113 rfl) pd_y_17 rfl (st := []) rfl rfl (G := [(d, o_Dig (st) (en) (.long (sig + (1 : Int64))) (pl) (ne) (ed) (ex) (.ref u) (.ref h') (.int 0) (.int 0)), (b, oBs bs)]) rfl rfl ?_
  rintro _ _ ⟨rfl, rfl⟩
  refine ⟨Or.inr (Or.inr fun _ q => Or.inr (Or.inr q)), ?_⟩
  refine Goes.runS X [(.bipush 60, 2)] (S' := [.int (60 : Int32), .int (Int32.ofNat k)]) (pc' := 19) rfl ?_
  refine Goes.if2 X (pc' := 31) (o := 12) (cd := .gt) (fun q => absurd (q.symm.trans (own_k60 k hk)) (by decide)) (fun _ => ?_)
  refine Goes.runS X [(.aload_n 0, 1)] (S' := [.ref d]) (pc' := 23) rfl ?_
  refine Goes.getF X 1 7 rfl rfl (wd hw 37 rfl) Via.refl ?_
  refine Goes.runS X [(.iload_n 1, 1)] (S' := [.int c', .ref u]) (pc' := 27) rfl ?_
  refine Goes.callV X 0 0 [0, 2] [1] rfl (D_sap l Z a0 h0 hw cs hCS hcs u b k hk bs hbs c' hc) (wd hw 127 rfl) (wd hw 128 rfl) (wd hw 130 rfl) (wd hw 129 rfl) (own_nf X (wd hw 130 rfl)) (wd hw 19 rfl) (wd hw 131 rfl) pd_y_20 rfl (st := []) rfl rfl (G := [(d, o_Dig (st) (en) (.long (sig + (1 : Int64))) (pl) (ne) (ed) (ex) (.ref u) (.ref h') (.int 0) (.int 0))]) rfl rfl ?_
  rintro _ _ ⟨rfl, rfl⟩
  refine ⟨Or.inl rfl, ?_⟩
  refine Goes.runS X [(.pop, 1)] (S' := []) (pc' := 31) rfl ?_
  refine Goes.sub [2, 0, 1] (G := [(d, o_Dig (st) (en) (.long (sig + (1 : Int64))) (pl) (ne) (ed) (ex) (.ref u) (.ref h') (.int 0) (.int 0)), (u, o_SB (.ref b) (.int 0) (.int (Int32.ofNat (k + 1)))), (b, oBs (bs.set k (.int (oI2b c'))))]) rfl ?_
  refine Goes.retV X ?_
  exact ⟨rfl, rfl⟩
def own_dig (c : Int32) : Int32 := if c < 48 then 0 else if 57 < c then 0 else 1
set_option maxRecDepth 65536 in
set_option maxHeartbeats 40000000 in
theorem D_isd (l : Launch) (Z : State) (a0 : Array Value) (h0 : Heap) (hw : ∀ d ∈ tables_1, d.before a0 Z = true) (c' : Int32) : Does l Z a0 h0 y_10 prog_27_method_9_code 1 (some .boolean) ({ frames := 0, cells := 0, slots := 0, locals := 0 } : Room) #[.int c'] [] (fun v F => v = some (.int (own_dig c')) ∧ F = []) := by
  refine Does.mk #[.val (.int c')] (plainFor_of_name (by decide +kernel)) (fun m => by first | (simp [entryFrame, mkF, argsToLocals, Value.category]; done) | rfl) ?_
  intro p e s m args below meth c h X
  show Goes _ _ _ _ _ _ _ _ _ _ _ _ _ _ _ _ _ _ _ _ [] 0 0 (mkF m 0 #[.val (.int c')] [])
  refine Goes.runS X [(.iload_n 0, 1), (.bipush 48, 2)] (S' := [.int (48 : Int32), .int c']) (pc' := 3) rfl ?_
  refine Goes.if2 X (pc' := 16) (o := 13) (cd := .lt) (fun q7 => ?_) (fun q7 => ?_)
  · have h8 : c' < 48 := by simpa [if_icmp.holds] using q7
    refine Goes.runS X [(.iconst 0, 1)] (S' := [.int (0 : Int32)]) (pc' := 17) rfl ?_
    refine Goes.retI X (by simp) rfl ?_
    exact ⟨by simp [own_dig, h8], rfl⟩
  · have h9 : ¬ c' < 48 := by simpa [if_icmp.holds] using q7
    refine Goes.runS X [(.iload_n 0, 1), (.bipush 57, 2)] (S' := [.int (57 : Int32), .int c']) (pc' := 9) rfl ?_
    refine Goes.if2 X (pc' := 16) (o := 7) (cd := .gt) (fun q10 => ?_) (fun q10 => ?_)
    · have h11 : 57 < c' := by simpa [if_icmp.holds] using q10
      refine Goes.runS X [(.iconst 0, 1)] (S' := [.int (0 : Int32)]) (pc' := 17) rfl ?_
      refine Goes.retI X (by simp) rfl ?_
      exact ⟨by simp [own_dig, h9, h11], rfl⟩
    · have h12 : ¬ 57 < c' := by simpa [if_icmp.holds] using q10
      refine Goes.runS X [(.iconst 1, 1)] (S' := [.int (1 : Int32)]) (pc' := 13) rfl ?_
      refine Goes.goto X (o := 4) (pc' := 17) ?_
      refine Goes.retI X (by simp) rfl ?_
      exact ⟨by simp [own_dig, h9, h12], rfl⟩
theorem own_d0 : own_dig 45 = 0 ∧ own_dig 43 = 0 ∧ own_dig 46 = 0 ∧ own_dig 101 = 0 ∧ own_dig 69 = 0 ∧ own_dig 48 = 1 := by decide
def own_next (st c : Int32) : Int32 :=
  if st = 0 then (if c = 45 then 1 else if c = 48 then 2 else if own_dig c = 0 then 9 else 3)
  else if st = 1 then (if c = 48 then 2 else if own_dig c = 0 then 9 else 3)
  else if st = 2 ∨ st = 3 then (if own_dig c = 0 then (if c = 46 then 4 else if c = 101 ∨ c = 69 then 6 else 9) else 3)
  else if st = 4 then (if own_dig c = 0 then 9 else 5)
  else if st = 5 then (if own_dig c = 0 then (if c = 101 ∨ c = 69 then 6 else 9) else 5)
  else if st = 6 then (if c = 45 ∨ c = 43 then 7 else if own_dig c = 0 then 9 else 8)
  else (if own_dig c = 0 then 9 else 8)
def own_st (st c : Int32) : Int32 := if own_next st c = 9 then st else own_next st c
def own_en (en st c : Int32) : Int32 := if own_next st c = 9 then 1 else en
def own_ok (st : Int32) : Prop := st = 0 ∨ st = 1 ∨ st = 2 ∨ st = 3 ∨ st = 4 ∨ st = 5 ∨ st = 6 ∨ st = 7 ∨ st = 8
theorem own_next_ok (st c : Int32) : own_next st c = 9 ∨ (1 ≤ own_next st c ∧ own_ok (own_next st c)) := by
  unfold own_next own_ok
  repeat' split
  all_goals decide
theorem own_st_ok {st : Int32} (c : Int32) (h : own_ok st) : own_ok (own_st st c) := by
  unfold own_st
  split
  · exact h
  · rcases own_next_ok st c with q | q
    · contradiction
    · exact q.2
def own_addQ (d u h' b : Addr) (hv : Value) (st en : Int32) (k : Nat) (v : Option Value) (F : OHp) : Prop := ∃ (r : Int32) (sig pl : Int64) (ne ed : Int32) (ex : Int64) (k' : Nat) (bs : List Value), v = some (.int r) ∧ k' ≤ k + 2 ∧ bs.length = 16 ∧ F = [(d, o_Dig (.int st) (.int en) (.long sig) (.long pl) (.int ne) (.int ed) (.long ex) (.ref u) (.ref h') (.int 0) (.int 0)), (u, o_SB (.ref b) (.int 0) (.int (Int32.ofNat k'))), (b, oBs bs), (h', o_SB (hv) (.int 0) (.int 0))]
theorem pf_5 : parseFieldDescriptor "Z" = some .boolean := by decide +kernel
theorem own_18 {st c nx : Int32} (h : own_next st c = nx) (h9 : ¬ nx = 9) : nx = 1 ∨ nx = 2 ∨ nx = 3 ∨ nx = 4 ∨ nx = 5 ∨ nx = 6 ∨ nx = 7 ∨ nx = 8 := by
  subst h
  rcases own_next_ok st c with q | ⟨q0, q⟩
  · exact absurd q h9
  · rcases q with q | q | q | q | q | q | q | q | q <;> rw [q] at q0 ⊢ <;> first | (simp; done) | (exact absurd q0 (by decide))
set_option maxRecDepth 65536 in
set_option maxHeartbeats 40000000 in
theorem D_add (l : Launch) (Z : State) (a0 : Array Value) (h0 : Heap) (hw : ∀ d ∈ tables_1, d.before a0 Z = true) (cs : Int32) (hCS : Sta Z h0 "java/lang/String" "COMPACT_STRINGS" "Z" (.int cs)) (hcs : ¬ cs = 0) (d u h' b : Addr) (hv : Value) (st en : Int32) (hok : own_ok st) (sig pl : Int64) (ne ed : Int32) (ex : Int64) (k : Nat) (hk : k + 2 ≤ 16) (bs : List Value) (hbs : bs.length = 16) (c' : Int32) (hc : c' ≤ 255) : Does l Z a0 h0 y_9 prog_28_method_2_code 5 (some .boolean) ({ frames := 4, cells := 0, slots := 0, locals := 53 } : Room) #[.ref d, .int c'] [(d, o_Dig (.int st) (.int en) (.long sig) (.long pl) (.int ne) (.int ed) (.long ex) (.ref u) (.ref h') (.int 0) (.int 0)), (u, o_SB (.ref b) (.int 0) (.int (Int32.ofNat k))), (b, oBs bs), (h', o_SB (hv) (.int 0) (.int 0))] (own_addQ d u h' b hv (own_st st c') (own_en en st c') k) := by
  refine Does.mk #[.val (.ref d), .val (.int c'), .unset, .unset, .unset] (plainFor_of_name (by decide +kernel)) (fun m => by first | (simp [entryFrame, mkF, argsToLocals, Value.category]; done) | rfl) ?_
  intro p e s m args below meth c h X
  have hk16 : k < 16 := by omega
  show Goes _ _ _ _ _ _ _ _ _ _ _ _ _ _ _ _ _ _ _ _ [(d, o_Dig (.int st) (.int en) (.long sig) (.long pl) (.int ne) (.int ed) (.long ex) (.ref u) (.ref h') (.int 0) (.int 0)), (u, o_SB (.ref b) (.int 0) (.int (Int32.ofNat k))), (b, oBs bs), (h', o_SB (hv) (.int 0) (.int 0))] 0 0 (mkF m 0 #[.val (.ref d), .val (.int c'), .unset, .unset, .unset] [])
  have E : ∀ (dg mk nx : Int32) (sg2 pl2 : Int64) (ne2 ed2 : Int32) (ex2 : Int64) (k2 : Nat) (bs2 : List Value), k2 ≤ k + 2 → bs2.length = 16 → own_st st c' = nx → own_en en st c' = en → Goes p l e ({ frames := 4, cells := 0, slots := 0, locals := 53 } : Room) s m args below meth c Z a0 none s h0 h [(d, o_Dig (.int st) (.int en) (.long sig) (.long pl) (.int ne) (.int ed) (.long ex) (.ref u) (.ref h') (.int 0) (.int 0)), (u, o_SB (.ref b) (.int 0) (.int (Int32.ofNat k))), (b, oBs bs), (h', o_SB (hv) (.int 0) (.int 0))] ({ frames := 4, cells := 0, slots := 0, locals := 53 } : Room).cells ({ frames := 4, cells := 0, slots := 0, locals := 53 } : Room).slots (own_addQ d u h' b hv (own_st st c') (own_en en st c') k) [(d, o_Dig (.int nx) (.int en) (.long sg2) (.long pl2) (.int ne2) (.int ed2) (.long ex2) (.ref u) (.ref h') (.int 0) (.int 0)), (u, o_SB (.ref b) (.int 0) (.int (Int32.ofNat k2))), (b, oBs bs2), (h', o_SB (hv) (.int 0) (.int 0))] 0 0 (mkF m 431 #[.val (.ref d), .val (.int c'), .val (.int dg), .val (.int mk), .val (.int nx)] []) := by
    intro dg mk nx sg2 pl2 ne2 ed2 ex2 k2 bs2 hk2 hbs2 hst hen
    refine Goes.runS X [(.aload_n 0, 1)] (S' := [.ref d]) (pc' := 432) rfl ?_
    refine Goes.getF X 0 8 rfl rfl (wd hw 39 rfl) Via.refl ?_
    refine Goes.callV X 0 3 [3] [0, 1, 2] rfl (D_sbl l Z a0 h0 hw h' hv (.int 0) 0) (wd hw 109 rfl) (wd hw 110 rfl) (wd hw 112 rfl) (wd hw 111 rfl) (own_nf X (wd hw 112 rfl)) (wd hw 19 rfl) (wd hw 113 rfl) pd_y_17 rfl (st := []) rfl rfl (G := [(d, o_Dig (.int nx) (.int en) (.long sg2) (.long pl2) (.int ne2) (.int ed2) (.long ex2) (.ref u) (.ref h') (.int 0) (.int 0)), (u, o_SB (.ref b) (.int 0) (.int (Int32.ofNat k2))), (b, oBs bs2)]) rfl rfl ?_
    rintro _ _ ⟨rfl, rfl⟩
    refine ⟨Or.inr (Or.inr fun _ q => Or.inr (Or.inr q)), ?_⟩
    refine Goes.runS X [(.aload_n 0, 1)] (S' := [.ref d, .int (0 : Int32)]) (pc' := 439) rfl ?_
    refine Goes.getF X 1 10 rfl rfl (wd hw 43 rfl) Via.refl ?_
    refine Goes.if2 X (pc' := 486) (o := 44) (cd := .ge) (fun _ => ?_) (fun q => absurd q (by decide))
    refine Goes.runS X [(.iconst 1, 1)] (S' := [.int (1 : Int32)]) (pc' := 487) rfl ?_
    refine Goes.sub [1, 2, 3, 0] (G := [(d, o_Dig (.int nx) (.int en) (.long sg2) (.long pl2) (.int ne2) (.int ed2) (.long ex2) (.ref u) (.ref h') (.int 0) (.int 0)), (u, o_SB (.ref b) (.int 0) (.int (Int32.ofNat k2))), (b, oBs bs2), (h', o_SB (hv) (.int 0) (.int 0))]) rfl ?_
    refine Goes.retI X (by simp) rfl ?_
    exact ⟨1, sg2, pl2, ne2, ed2, ex2, k2, bs2, rfl, hk2, hbs2, by rw [hst, hen] <;> rfl⟩
  have M : ∀ (dg mk nx : Int32) (sg1 : Int64) (k1 : Nat) (bs1 : List Value), k1 ≤ k + 1 → bs1.length = 16 → (nx = 1 ∨ nx = 2 ∨ nx = 3 ∨ nx = 4 ∨ nx = 5 ∨ nx = 6 ∨ nx = 7 ∨ nx = 8) → own_st st c' = nx → own_en en st c' = en → Goes p l e ({ frames := 4, cells := 0, slots := 0, locals := 53 } : Room) s m args below meth c Z a0 none s h0 h [(d, o_Dig (.int st) (.int en) (.long sig) (.long pl) (.int ne) (.int ed) (.long ex) (.ref u) (.ref h') (.int 0) (.int 0)), (u, o_SB (.ref b) (.int 0) (.int (Int32.ofNat k))), (b, oBs bs), (h', o_SB (hv) (.int 0) (.int 0))] ({ frames := 4, cells := 0, slots := 0, locals := 53 } : Room).cells ({ frames := 4, cells := 0, slots := 0, locals := 53 } : Room).slots (own_addQ d u h' b hv (own_st st c') (own_en en st c') k) [(d, o_Dig (.int st) (.int en) (.long sg1) (.long pl) (.int ne) (.int ed) (.long ex) (.ref u) (.ref h') (.int 0) (.int 0)), (u, o_SB (.ref b) (.int 0) (.int (Int32.ofNat k1))), (b, oBs bs1), (h', o_SB (hv) (.int 0) (.int 0))] 0 0 (mkF m 282 #[.val (.ref d), .val (.int c'), .val (.int dg), .val (.int mk), .val (.int nx)] []) := by
    intro dg mk nx sg1 k1 bs1 hk1 hbs1 hnx hst hen
    have hk1' : k1 < 16 := by omega
    rcases hnx with rfl | rfl | rfl | rfl | rfl | rfl | rfl | rfl
    · show Goes _ _ _ _ _ _ _ _ _ _ _ _ _ _ _ _ _ _ _ _ [(d, o_Dig (.int st) (.int en) (.long sg1) (.long pl) (.int ne) (.int ed) (.long ex) (.ref u) (.ref h') (.int 0) (.int 0)), (u, o_SB (.ref b) (.int 0) (.int (Int32.ofNat k1))), (b, oBs bs1), (h', o_SB (hv) (.int 0) (.int 0))] 0 0 (mkF m 282 #[.val (.ref d), .val (.int c'), .val (.int dg), .val (.int mk), .val (.int (1 : Int32))] [])
      refine Goes.runS X [(.aload_n 0, 1), (.iload 4, 2)] (S' := [.int (1 : Int32), .ref d]) (pc' := 285) rfl ?_
      refine Goes.putF X 0 0 rfl rfl (wd hw 15 rfl) Via.refl (Or.inl (wd hw 16 rfl)) (wd hw 7 rfl) (own_hn rfl rfl nd_Dig) (ty := .int) pf_2 rfl rfl ?_
      refine Goes.runS X [(.aload_n 0, 1)] (S' := [.ref d]) (pc' := 289) rfl ?_
      refine Goes.getF X 0 0 rfl rfl (wd hw 15 rfl) Via.refl ?_
      refine Goes.runS X [(.iconst 3, 1)] (S' := [.int (3 : Int32), .int (1 : Int32)]) (pc' := 293) rfl ?_
      refine Goes.if2 X (pc' := 304) (o := 11) (cd := .ne) (fun _ => ?_) (fun q => absurd q (by decide))
      refine Goes.runS X [(.aload_n 0, 1)] (S' := [.ref d]) (pc' := 305) rfl ?_
      refine Goes.getF X 0 0 rfl rfl (wd hw 15 rfl) Via.refl ?_
      refine Goes.runS X [(.iconst 5, 1)] (S' := [.int (5 : Int32), .int (1 : Int32)]) (pc' := 309) rfl ?_
      refine Goes.if2 X (pc' := 345) (o := 36) (cd := .ne) (fun _ => ?_) (fun q => absurd q (by decide))
      refine Goes.runS X [(.aload_n 0, 1)] (S' := [.ref d]) (pc' := 346) rfl ?_
      refine Goes.getF X 0 0 rfl rfl (wd hw 15 rfl) Via.refl ?_
      refine Goes.runS X [(.bipush 7, 2)] (S' := [.int (7 : Int32), .int (1 : Int32)]) (pc' := 351) rfl ?_
      refine Goes.if2 X (pc' := 372) (o := 21) (cd := .ne) (fun _ => ?_) (fun q => absurd q (by decide))
      refine Goes.runS X [(.aload_n 0, 1)] (S' := [.ref d]) (pc' := 373) rfl ?_
      refine Goes.getF X 0 0 rfl rfl (wd hw 15 rfl) Via.refl ?_
      refine Goes.runS X [(.bipush 8, 2)] (S' := [.int (8 : Int32), .int (1 : Int32)]) (pc' := 378) rfl ?_
      refine Goes.if2 X (pc' := 431) (o := 53) (cd := .ne) (fun _ => ?_) (fun q => absurd q (by decide))
      exact E dg mk 1 sg1 pl ne ed ex k1 bs1 (by omega) hbs1 hst hen
    · show Goes _ _ _ _ _ _ _ _ _ _ _ _ _ _ _ _ _ _ _ _ [(d, o_Dig (.int st) (.int en) (.long sg1) (.long pl) (.int ne) (.int ed) (.long ex) (.ref u) (.ref h') (.int 0) (.int 0)), (u, o_SB (.ref b) (.int 0) (.int (Int32.ofNat k1))), (b, oBs bs1), (h', o_SB (hv) (.int 0) (.int 0))] 0 0 (mkF m 282 #[.val (.ref d), .val (.int c'), .val (.int dg), .val (.int mk), .val (.int (2 : Int32))] [])
      refine Goes.runS X [(.aload_n 0, 1), (.iload 4, 2)] (S' := [.int (2 : Int32), .ref d]) (pc' := 285) rfl ?_
      refine Goes.putF X 0 0 rfl rfl (wd hw 15 rfl) Via.refl (Or.inl (wd hw 16 rfl)) (wd hw 7 rfl) (own_hn rfl rfl nd_Dig) (ty := .int) pf_2 rfl rfl ?_
      refine Goes.runS X [(.aload_n 0, 1)] (S' := [.ref d]) (pc' := 289) rfl ?_
      refine Goes.getF X 0 0 rfl rfl (wd hw 15 rfl) Via.refl ?_
      refine Goes.runS X [(.iconst 3, 1)] (S' := [.int (3 : Int32), .int (2 : Int32)]) (pc' := 293) rfl ?_
      refine Goes.if2 X (pc' := 304) (o := 11) (cd := .ne) (fun _ => ?_) (fun q => absurd q (by decide))
      refine Goes.runS X [(.aload_n 0, 1)] (S' := [.ref d]) (pc' := 305) rfl ?_
      refine Goes.getF X 0 0 rfl rfl (wd hw 15 rfl) Via.refl ?_
      refine Goes.runS X [(.iconst 5, 1)] (S' := [.int (5 : Int32), .int (2 : Int32)]) (pc' := 309) rfl ?_
      refine Goes.if2 X (pc' := 345) (o := 36) (cd := .ne) (fun _ => ?_) (fun q => absurd q (by decide))
      refine Goes.runS X [(.aload_n 0, 1)] (S' := [.ref d]) (pc' := 346) rfl ?_
      refine Goes.getF X 0 0 rfl rfl (wd hw 15 rfl) Via.refl ?_
      refine Goes.runS X [(.bipush 7, 2)] (S' := [.int (7 : Int32), .int (2 : Int32)]) (pc' := 351) rfl ?_
      refine Goes.if2 X (pc' := 372) (o := 21) (cd := .ne) (fun _ => ?_) (fun q => absurd q (by decide))
      refine Goes.runS X [(.aload_n 0, 1)] (S' := [.ref d]) (pc' := 373) rfl ?_
      refine Goes.getF X 0 0 rfl rfl (wd hw 15 rfl) Via.refl ?_
      refine Goes.runS X [(.bipush 8, 2)] (S' := [.int (8 : Int32), .int (2 : Int32)]) (pc' := 378) rfl ?_
      refine Goes.if2 X (pc' := 431) (o := 53) (cd := .ne) (fun _ => ?_) (fun q => absurd q (by decide))
      exact E dg mk 2 sg1 pl ne ed ex k1 bs1 (by omega) hbs1 hst hen
    · show Goes _ _ _ _ _ _ _ _ _ _ _ _ _ _ _ _ _ _ _ _ [(d, o_Dig (.int st) (.int en) (.long sg1) (.long pl) (.int ne) (.int ed) (.long ex) (.ref u) (.ref h') (.int 0) (.int 0)), (u, o_SB (.ref b) (.int 0) (.int (Int32.ofNat k1))), (b, oBs bs1), (h', o_SB (hv) (.int 0) (.int 0))] 0 0 (mkF m 282 #[.val (.ref d), .val (.int c'), .val (.int dg), .val (.int mk), .val (.int (3 : Int32))] [])
      refine Goes.runS X [(.aload_n 0, 1), (.iload 4, 2)] (S' := [.int (3 : Int32), .ref d]) (pc' := 285) rfl ?_
      refine Goes.putF X 0 0 rfl rfl (wd hw 15 rfl) Via.refl (Or.inl (wd hw 16 rfl)) (wd hw 7 rfl) (own_hn rfl rfl nd_Dig) (ty := .int) pf_2 rfl rfl ?_
      refine Goes.runS X [(.aload_n 0, 1)] (S' := [.ref d]) (pc' := 289) rfl ?_
      refine Goes.getF X 0 0 rfl rfl (wd hw 15 rfl) Via.refl ?_
      refine Goes.runS X [(.iconst 3, 1)] (S' := [.int (3 : Int32), .int (3 : Int32)]) (pc' := 293) rfl ?_
      refine Goes.if2 X (pc' := 304) (o := 11) (cd := .ne) (fun q => absurd q (by decide)) (fun _ => ?_)
      refine Goes.runS X [(.aload_n 0, 1), (.iload_n 1, 1)] (S' := [.int c', .ref d]) (pc' := 298) rfl ?_
      refine Goes.callP X 0 0 [0, 1, 2] [3] rfl (D_sg l Z a0 h0 hw cs hCS hcs d u h' b (.int 3) (.int en) (.long pl) (.int ne) (.int ed) (.long ex) sg1 k1 hk1' bs1 hbs1 c' hc) (wd hw 121 rfl) (wd hw 122 rfl) (wd hw 123 rfl) (nf_inst X (wd hw 7 rfl)) (wd hw 8 rfl) (wd hw 124 rfl) pd_y_19 rfl (st := []) rfl rfl (G := [(h', o_SB (hv) (.int 0) (.int 0))]) rfl rfl ?_
      rintro _ _ ⟨rfl, rfl⟩
      refine ⟨Or.inl rfl, ?_⟩
      refine Goes.goto X (o := 130) (pc' := 431) ?_
      refine Goes.sub [0, 1, 2, 3] (G := [(d, o_Dig (.int (3 : Int32)) (.int en) (.long (sg1 + 1)) (.long pl) (.int ne) (.int ed) (.long ex) (.ref u) (.ref h') (.int 0) (.int 0)), (u, o_SB (.ref b) (.int 0) (.int (Int32.ofNat (k1 + 1)))), (b, oBs (bs1.set k1 (.int (oI2b c')))), (h', o_SB (hv) (.int 0) (.int 0))]) rfl ?_
      exact E dg mk 3 (sg1 + 1) pl ne ed ex (k1 + 1) _ (by omega) (by rw [List.length_set]; exact hbs1) hst hen
    · show Goes _ _ _ _ _ _ _ _ _ _ _ _ _ _ _ _ _ _ _ _ [(d, o_Dig (.int st) (.int en) (.long sg1) (.long pl) (.int ne) (.int ed) (.long ex) (.ref u) (.ref h') (.int 0) (.int 0)), (u, o_SB (.ref b) (.int 0) (.int (Int32.ofNat k1))), (b, oBs bs1), (h', o_SB (hv) (.int 0) (.int 0))] 0 0 (mkF m 282 #[.val (.ref d), .val (.int c'), .val (.int dg), .val (.int mk), .val (.int (4 : Int32))] [])
      refine Goes.runS X [(.aload_n 0, 1), (.iload 4, 2)] (S' := [.int (4 : Int32), .ref d]) (pc' := 285) rfl ?_
      refine Goes.putF X 0 0 rfl rfl (wd hw 15 rfl) Via.refl (Or.inl (wd hw 16 rfl)) (wd hw 7 rfl) (own_hn rfl rfl nd_Dig) (ty := .int) pf_2 rfl rfl ?_
      refine Goes.runS X [(.aload_n 0, 1)] (S' := [.ref d]) (pc' := 289) rfl ?_
      refine Goes.getF X 0 0 rfl rfl (wd hw 15 rfl) Via.refl ?_
      refine Goes.runS X [(.iconst 3, 1)] (S' := [.int (3 : Int32), .int (4 : Int32)]) (pc' := 293) rfl ?_
      refine Goes.if2 X (pc' := 304) (o := 11) (cd := .ne) (fun _ => ?_) (fun q => absurd q (by decide))
      refine Goes.runS X [(.aload_n 0, 1)] (S' := [.ref d]) (pc' := 305) rfl ?_
      refine Goes.getF X 0 0 rfl rfl (wd hw 15 rfl) Via.refl ?_
      refine Goes.runS X [(.iconst 5, 1)] (S' := [.int (5 : Int32), .int (4 : Int32)]) (pc' := 309) rfl ?_
      refine Goes.if2 X (pc' := 345) (o := 36) (cd := .ne) (fun _ => ?_) (fun q => absurd q (by decide))
      refine Goes.runS X [(.aload_n 0, 1)] (S' := [.ref d]) (pc' := 346) rfl ?_
      refine Goes.getF X 0 0 rfl rfl (wd hw 15 rfl) Via.refl ?_
      refine Goes.runS X [(.bipush 7, 2)] (S' := [.int (7 : Int32), .int (4 : Int32)]) (pc' := 351) rfl ?_
      refine Goes.if2 X (pc' := 372) (o := 21) (cd := .ne) (fun _ => ?_) (fun q => absurd q (by decide))
      refine Goes.runS X [(.aload_n 0, 1)] (S' := [.ref d]) (pc' := 373) rfl ?_
      refine Goes.getF X 0 0 rfl rfl (wd hw 15 rfl) Via.refl ?_
      refine Goes.runS X [(.bipush 8, 2)] (S' := [.int (8 : Int32), .int (4 : Int32)]) (pc' := 378) rfl ?_
      refine Goes.if2 X (pc' := 431) (o := 53) (cd := .ne) (fun _ => ?_) (fun q => absurd q (by decide))
      exact E dg mk 4 sg1 pl ne ed ex k1 bs1 (by omega) hbs1 hst hen
    · show Goes _ _ _ _ _ _ _ _ _ _ _ _ _ _ _ _ _ _ _ _ [(d, o_Dig (.int st) (.int en) (.long sg1) (.long pl) (.int ne) (.int ed) (.long ex) (.ref u) (.ref h') (.int 0) (.int 0)), (u, o_SB (.ref b) (.int 0) (.int (Int32.ofNat k1))), (b, oBs bs1), (h', o_SB (hv) (.int 0) (.int 0))] 0 0 (mkF m 282 #[.val (.ref d), .val (.int c'), .val (.int dg), .val (.int mk), .val (.int (5 : Int32))] [])
      refine Goes.runS X [(.aload_n 0, 1), (.iload 4, 2)] (S' := [.int (5 : Int32), .ref d]) (pc' := 285) rfl ?_
      refine Goes.putF X 0 0 rfl rfl (wd hw 15 rfl) Via.refl (Or.inl (wd hw 16 rfl)) (wd hw 7 rfl) (own_hn rfl rfl nd_Dig) (ty := .int) pf_2 rfl rfl ?_
      refine Goes.runS X [(.aload_n 0, 1)] (S' := [.ref d]) (pc' := 289) rfl ?_
      refine Goes.getF X 0 0 rfl rfl (wd hw 15 rfl) Via.refl ?_
      refine Goes.runS X [(.iconst 3, 1)] (S' := [.int (3 : Int32), .int (5 : Int32)]) (pc' := 293) rfl ?_
      refine Goes.if2 X (pc' := 304) (o := 11) (cd := .ne) (fun _ => ?_) (fun q => absurd q (by decide))
      refine Goes.runS X [(.aload_n 0, 1)] (S' := [.ref d]) (pc' := 305) rfl ?_
      refine Goes.getF X 0 0 rfl rfl (wd hw 15 rfl) Via.refl ?_
      refine Goes.runS X [(.iconst 5, 1)] (S' := [.int (5 : Int32), .int (5 : Int32)]) (pc' := 309) rfl ?_
      refine Goes.if2 X (pc' := 345) (o := 36) (cd := .ne) (fun q => absurd q (by decide)) (fun _ => ?_)
      refine Goes.runS X [(.aload_n 0, 1), (.dup, 1)] (S' := [.ref d, .ref d]) (pc' := 314) rfl ?_
      refine Goes.getF X 0 3 rfl rfl (wd hw 149 rfl) Via.refl ?_
      refine Goes.runS X [(.lconst 1, 1), (.ladd, 1)] (S' := [.long (pl + (1 : Int64)), .ref d]) (pc' := 319) rfl ?_
      refine Goes.putF X 0 3 rfl rfl (wd hw 149 rfl) Via.refl (Or.inl (wd hw 150 rfl)) (wd hw 7 rfl) (own_hn rfl rfl nd_Dig) (ty := .long) pf_4 rfl rfl ?_
      refine Goes.runS X [(.aload_n 0, 1)] (S' := [.ref d]) (pc' := 323) rfl ?_
      refine Goes.getF X 0 2 rfl rfl (wd hw 125 rfl) Via.refl ?_
      refine Goes.runS X [(.lconst 0, 1), (.lcmp, 1)] (S' := [.int (oLcmp sg1 (0 : Int64))]) (pc' := 328) rfl ?_
      refine Goes.if1 X (pc' := 337) (o := 9) (cd := .gt) (fun q13 => ?_) (fun q13 => ?_)
      · refine Goes.runS X [(.aload_n 0, 1), (.iload_n 1, 1)] (S' := [.int c', .ref d]) (pc' := 339) rfl ?_
        refine Goes.callP X 0 0 [0, 1, 2] [3] rfl (D_sg l Z a0 h0 hw cs hCS hcs d u h' b (.int 5) (.int en) (.long (pl + (1 : Int64))) (.int ne) (.int ed) (.long ex) sg1 k1 hk1' bs1 hbs1 c' hc) (wd hw 121 rfl) (wd hw 122 rfl) (wd hw 123 rfl) (nf_inst X (wd hw 7 rfl)) (wd hw 8 rfl) (wd hw 124 rfl) pd_y_19 rfl (st := []) rfl rfl (G := [(h', o_SB (hv) (.int 0) (.int 0))]) rfl rfl ?_
        rintro _ _ ⟨rfl, rfl⟩
        refine ⟨Or.inl rfl, ?_⟩
        refine Goes.goto X (o := 89) (pc' := 431) ?_
        refine Goes.sub [0, 1, 2, 3] (G := [(d, o_Dig (.int (5 : Int32)) (.int en) (.long (sg1 + 1)) (.long (pl + (1 : Int64))) (.int ne) (.int ed) (.long ex) (.ref u) (.ref h') (.int 0) (.int 0)), (u, o_SB (.ref b) (.int 0) (.int (Int32.ofNat (k1 + 1)))), (b, oBs (bs1.set k1 (.int (oI2b c')))), (h', o_SB (hv) (.int 0) (.int 0))]) rfl ?_
        exact E dg mk 5 (sg1 + 1) (pl + 1) ne ed ex (k1 + 1) _ (by omega) (by rw [List.length_set]; exact hbs1) hst hen
      · refine Goes.runS X [(.iload_n 1, 1), (.bipush 48, 2)] (S' := [.int (48 : Int32), .int c']) (pc' := 334) rfl ?_
        refine Goes.if2 X (pc' := 431) (o := 97) (cd := .eq) (fun q14 => ?_) (fun q14 => ?_)
        · exact E dg mk 5 sg1 (pl + 1) ne ed ex k1 bs1 (by omega) hbs1 hst hen
        · refine Goes.runS X [(.aload_n 0, 1), (.iload_n 1, 1)] (S' := [.int c', .ref d]) (pc' := 339) rfl ?_
          refine Goes.callP X 0 0 [0, 1, 2] [3] rfl (D_sg l Z a0 h0 hw cs hCS hcs d u h' b (.int 5) (.int en) (.long (pl + (1 : Int64))) (.int ne) (.int ed) (.long ex) sg1 k1 hk1' bs1 hbs1 c' hc) (wd hw 121 rfl) (wd hw 122 rfl) (wd hw 123 rfl) (nf_inst X (wd hw 7 rfl)) (wd hw 8 rfl) (wd hw 124 rfl) pd_y_19 rfl (st := []) rfl rfl (G := [(h', o_SB (hv) (.int 0) (.int 0))]) rfl rfl ?_
          rintro _ _ ⟨rfl, rfl⟩
          refine ⟨Or.inl rfl, ?_⟩
          refine Goes.goto X (o := 89) (pc' := 431) ?_
          refine Goes.sub [0, 1, 2, 3] (G := [(d, o_Dig (.int (5 : Int32)) (.int en) (.long (sg1 + 1)) (.long (pl + (1 : Int64))) (.int ne) (.int ed) (.long ex) (.ref u) (.ref h') (.int 0) (.int 0)), (u, o_SB (.ref b) (.int 0) (.int (Int32.ofNat (k1 + 1)))), (b, oBs (bs1.set k1 (.int (oI2b c')))), (h', o_SB (hv) (.int 0) (.int 0))]) rfl ?_
          exact E dg mk 5 (sg1 + 1) (pl + 1) ne ed ex (k1 + 1) _ (by omega) (by rw [List.length_set]; exact hbs1) hst hen
    · show Goes _ _ _ _ _ _ _ _ _ _ _ _ _ _ _ _ _ _ _ _ [(d, o_Dig (.int st) (.int en) (.long sg1) (.long pl) (.int ne) (.int ed) (.long ex) (.ref u) (.ref h') (.int 0) (.int 0)), (u, o_SB (.ref b) (.int 0) (.int (Int32.ofNat k1))), (b, oBs bs1), (h', o_SB (hv) (.int 0) (.int 0))] 0 0 (mkF m 282 #[.val (.ref d), .val (.int c'), .val (.int dg), .val (.int mk), .val (.int (6 : Int32))] [])
      refine Goes.runS X [(.aload_n 0, 1), (.iload 4, 2)] (S' := [.int (6 : Int32), .ref d]) (pc' := 285) rfl ?_
      refine Goes.putF X 0 0 rfl rfl (wd hw 15 rfl) Via.refl (Or.inl (wd hw 16 rfl)) (wd hw 7 rfl) (own_hn rfl rfl nd_Dig) (ty := .int) pf_2 rfl rfl ?_
      refine Goes.runS X [(.aload_n 0, 1)] (S' := [.ref d]) (pc' := 289) rfl ?_
      refine Goes.getF X 0 0 rfl rfl (wd hw 15 rfl) Via.refl ?_
      refine Goes.runS X [(.iconst 3, 1)] (S' := [.int (3 : Int32), .int (6 : Int32)]) (pc' := 293) rfl ?_
      refine Goes.if2 X (pc' := 304) (o := 11) (cd := .ne) (fun _ => ?_) (fun q => absurd q (by decide))
      refine Goes.runS X [(.aload_n 0, 1)] (S' := [.ref d]) (pc' := 305) rfl ?_
      refine Goes.getF X 0 0 rfl rfl (wd hw 15 rfl) Via.refl ?_
      refine Goes.runS X [(.iconst 5, 1)] (S' := [.int (5 : Int32), .int (6 : Int32)]) (pc' := 309) rfl ?_
      refine Goes.if2 X (pc' := 345) (o := 36) (cd := .ne) (fun _ => ?_) (fun q => absurd q (by decide))
      refine Goes.runS X [(.aload_n 0, 1)] (S' := [.ref d]) (pc' := 346) rfl ?_
      refine Goes.getF X 0 0 rfl rfl (wd hw 15 rfl) Via.refl ?_
      refine Goes.runS X [(.bipush 7, 2)] (S' := [.int (7 : Int32), .int (6 : Int32)]) (pc' := 351) rfl ?_
      refine Goes.if2 X (pc' := 372) (o := 21) (cd := .ne) (fun _ => ?_) (fun q => absurd q (by decide))
      refine Goes.runS X [(.aload_n 0, 1)] (S' := [.ref d]) (pc' := 373) rfl ?_
      refine Goes.getF X 0 0 rfl rfl (wd hw 15 rfl) Via.refl ?_
      refine Goes.runS X [(.bipush 8, 2)] (S' := [.int (8 : Int32), .int (6 : Int32)]) (pc' := 378) rfl ?_
      refine Goes.if2 X (pc' := 431) (o := 53) (cd := .ne) (fun _ => ?_) (fun q => absurd q (by decide))
      exact E dg mk 6 sg1 pl ne ed ex k1 bs1 (by omega) hbs1 hst hen
    · show Goes _ _ _ _ _ _ _ _ _ _ _ _ _ _ _ _ _ _ _ _ [(d, o_Dig (.int st) (.int en) (.long sg1) (.long pl) (.int ne) (.int ed) (.long ex) (.ref u) (.ref h') (.int 0) (.int 0)), (u, o_SB (.ref b) (.int 0) (.int (Int32.ofNat k1))), (b, oBs bs1), (h', o_SB (hv) (.int 0) (.int 0))] 0 0 (mkF m 282 #[.val (.ref d), .val (.int c'), .val (.int dg), .val (.int mk), .val (.int (7 : Int32))] [])
      refine Goes.runS X [(.aload_n 0, 1), (.iload 4, 2)] (S' := [.int (7 : Int32), .ref d]) (pc' := 285) rfl ?_
      refine Goes.putF X 0 0 rfl rfl (wd hw 15 rfl) Via.refl (Or.inl (wd hw 16 rfl)) (wd hw 7 rfl) (own_hn rfl rfl nd_Dig) (ty := .int) pf_2 rfl rfl ?_
      refine Goes.runS X [(.aload_n 0, 1)] (S' := [.ref d]) (pc' := 289) rfl ?_
      refine Goes.getF X 0 0 rfl rfl (wd hw 15 rfl) Via.refl ?_
      refine Goes.runS X [(.iconst 3, 1)] (S' := [.int (3 : Int32), .int (7 : Int32)]) (pc' := 293) rfl ?_
      refine Goes.if2 X (pc' := 304) (o := 11) (cd := .ne) (fun _ => ?_) (fun q => absurd q (by decide))
      refine Goes.runS X [(.aload_n 0, 1)] (S' := [.ref d]) (pc' := 305) rfl ?_
      refine Goes.getF X 0 0 rfl rfl (wd hw 15 rfl) Via.refl ?_
      refine Goes.runS X [(.iconst 5, 1)] (S' := [.int (5 : Int32), .int (7 : Int32)]) (pc' := 309) rfl ?_
      refine Goes.if2 X (pc' := 345) (o := 36) (cd := .ne) (fun _ => ?_) (fun q => absurd q (by decide))
      refine Goes.runS X [(.aload_n 0, 1)] (S' := [.ref d]) (pc' := 346) rfl ?_
      refine Goes.getF X 0 0 rfl rfl (wd hw 15 rfl) Via.refl ?_
      refine Goes.runS X [(.bipush 7, 2)] (S' := [.int (7 : Int32), .int (7 : Int32)]) (pc' := 351) rfl ?_
      refine Goes.if2 X (pc' := 372) (o := 21) (cd := .ne) (fun q => absurd q (by decide)) (fun _ => ?_)
      refine Goes.runS X [(.aload_n 0, 1), (.iload_n 1, 1), (.bipush 45, 2)] (S' := [.int (45 : Int32), .int c', .ref d]) (pc' := 358) rfl ?_
      refine Goes.if2 X (pc' := 365) (o := 7) (cd := .ne) (fun q15 => ?_) (fun q15 => ?_)
      · refine Goes.runS X [(.iconst 0, 1)] (S' := [.int (0 : Int32), .ref d]) (pc' := 366) rfl ?_
        refine Goes.putF X 0 4 rfl rfl (wd hw 151 rfl) Via.refl (Or.inl (wd hw 152 rfl)) (wd hw 7 rfl) (own_hn rfl rfl nd_Dig) (ty := .boolean) pf_5 rfl rfl ?_
        refine Goes.goto X (o := 62) (pc' := 431) ?_
        exact E dg mk 7 sg1 pl _ ed ex k1 bs1 (by omega) hbs1 hst hen
      · refine Goes.runS X [(.iconst 1, 1)] (S' := [.int (1 : Int32), .ref d]) (pc' := 362) rfl ?_
        refine Goes.goto X (o := 4) (pc' := 366) ?_
        refine Goes.putF X 0 4 rfl rfl (wd hw 151 rfl) Via.refl (Or.inl (wd hw 152 rfl)) (wd hw 7 rfl) (own_hn rfl rfl nd_Dig) (ty := .boolean) pf_5 rfl rfl ?_
        refine Goes.goto X (o := 62) (pc' := 431) ?_
        exact E dg mk 7 sg1 pl _ ed ex k1 bs1 (by omega) hbs1 hst hen
    · show Goes _ _ _ _ _ _ _ _ _ _ _ _ _ _ _ _ _ _ _ _ [(d, o_Dig (.int st) (.int en) (.long sg1) (.long pl) (.int ne) (.int ed) (.long ex) (.ref u) (.ref h') (.int 0) (.int 0)), (u, o_SB (.ref b) (.int 0) (.int (Int32.ofNat k1))), (b, oBs bs1), (h', o_SB (hv) (.int 0) (.int 0))] 0 0 (mkF m 282 #[.val (.ref d), .val (.int c'), .val (.int dg), .val (.int mk), .val (.int (8 : Int32))] [])
      refine Goes.runS X [(.aload_n 0, 1), (.iload 4, 2)] (S' := [.int (8 : Int32), .ref d]) (pc' := 285) rfl ?_
      refine Goes.putF X 0 0 rfl rfl (wd hw 15 rfl) Via.refl (Or.inl (wd hw 16 rfl)) (wd hw 7 rfl) (own_hn rfl rfl nd_Dig) (ty := .int) pf_2 rfl rfl ?_
      refine Goes.runS X [(.aload_n 0, 1)] (S' := [.ref d]) (pc' := 289) rfl ?_
      refine Goes.getF X 0 0 rfl rfl (wd hw 15 rfl) Via.refl ?_
      refine Goes.runS X [(.iconst 3, 1)] (S' := [.int (3 : Int32), .int (8 : Int32)]) (pc' := 293) rfl ?_
      refine Goes.if2 X (pc' := 304) (o := 11) (cd := .ne) (fun _ => ?_) (fun q => absurd q (by decide))
      refine Goes.runS X [(.aload_n 0, 1)] (S' := [.ref d]) (pc' := 305) rfl ?_
      refine Goes.getF X 0 0 rfl rfl (wd hw 15 rfl) Via.refl ?_
      refine Goes.runS X [(.iconst 5, 1)] (S' := [.int (5 : Int32), .int (8 : Int32)]) (pc' := 309) rfl ?_
      refine Goes.if2 X (pc' := 345) (o := 36) (cd := .ne) (fun _ => ?_) (fun q => absurd q (by decide))
      refine Goes.runS X [(.aload_n 0, 1)] (S' := [.ref d]) (pc' := 346) rfl ?_
      refine Goes.getF X 0 0 rfl rfl (wd hw 15 rfl) Via.refl ?_
      refine Goes.runS X [(.bipush 7, 2)] (S' := [.int (7 : Int32), .int (8 : Int32)]) (pc' := 351) rfl ?_
      refine Goes.if2 X (pc' := 372) (o := 21) (cd := .ne) (fun _ => ?_) (fun q => absurd q (by decide))
      refine Goes.runS X [(.aload_n 0, 1)] (S' := [.ref d]) (pc' := 373) rfl ?_
      refine Goes.getF X 0 0 rfl rfl (wd hw 15 rfl) Via.refl ?_
      refine Goes.runS X [(.bipush 8, 2)] (S' := [.int (8 : Int32), .int (8 : Int32)]) (pc' := 378) rfl ?_
      refine Goes.if2 X (pc' := 431) (o := 53) (cd := .ne) (fun q => absurd q (by decide)) (fun _ => ?_)
      refine Goes.runS X [(.aload_n 0, 1)] (S' := [.ref d]) (pc' := 382) rfl ?_
      refine Goes.getF X 0 5 rfl rfl (wd hw 153 rfl) Via.refl ?_
      refine Goes.if1 X (pc' := 394) (o := 9) (cd := .gt) (fun q16 => ?_) (fun q16 => ?_)
      · refine Goes.runS X [(.aload_n 0, 1), (.dup, 1)] (S' := [.ref d, .ref d]) (pc' := 396) rfl ?_
        refine Goes.getF X 0 5 rfl rfl (wd hw 153 rfl) Via.refl ?_
        refine Goes.runS X [(.iconst 1, 1), (.iadd, 1)] (S' := [.int (ed + (1 : Int32)), .ref d]) (pc' := 401) rfl ?_
        refine Goes.putF X 0 5 rfl rfl (wd hw 153 rfl) Via.refl (Or.inl (wd hw 154 rfl)) (wd hw 7 rfl) (own_hn rfl rfl nd_Dig) (ty := .int) pf_2 rfl rfl ?_
        refine Goes.runS X [(.aload_n 0, 1)] (S' := [.ref d]) (pc' := 405) rfl ?_
        refine Goes.getF X 0 5 rfl rfl (wd hw 153 rfl) Via.refl ?_
        refine Goes.runS X [(.bipush 18, 2)] (S' := [.int (18 : Int32), .int (ed + (1 : Int32))]) (pc' := 410) rfl ?_
        refine Goes.if2 X (pc' := 431) (o := 21) (cd := .gt) (fun q17 => ?_) (fun q17 => ?_)
        · exact E dg mk 8 sg1 pl ne (ed + 1) ex k1 bs1 (by omega) hbs1 hst hen
        · refine Goes.runS X [(.aload_n 0, 1)] (S' := [.ref d]) (pc' := 414) rfl ?_
          refine Goes.ldcJ X (wd hw 155 rfl) ?_
          refine Goes.runS X [(.aload_n 0, 1)] (S' := [.ref d, .long (10 : Int64), .ref d]) (pc' := 418) rfl ?_
          refine Goes.getF X 0 6 rfl rfl (wd hw 156 rfl) Via.refl ?_
          refine Goes.runS X [(.lmul, 1), (.iload_n 1, 1), (.bipush 48, 2), (.isub, 1), (.i2l, 1), (.ladd, 1)] (S' := [.long (((10 : Int64) * ex) + ((c' - (48 : Int32))).toInt64), .ref d]) (pc' := 428) rfl ?_
          refine Goes.putF X 0 6 rfl rfl (wd hw 156 rfl) Via.refl (Or.inl (wd hw 157 rfl)) (wd hw 7 rfl) (own_hn rfl rfl nd_Dig) (ty := .long) pf_4 rfl rfl ?_
          exact E dg mk 8 sg1 pl ne (ed + 1) _ k1 bs1 (by omega) hbs1 hst hen
      · refine Goes.runS X [(.iload_n 1, 1), (.bipush 48, 2)] (S' := [.int (48 : Int32), .int c']) (pc' := 391) rfl ?_
        refine Goes.if2 X (pc' := 431) (o := 40) (cd := .eq) (fun q18 => ?_) (fun q18 => ?_)
        · exact E dg mk 8 sg1 pl ne ed ex k1 bs1 (by omega) hbs1 hst hen
        · refine Goes.runS X [(.aload_n 0, 1), (.dup, 1)] (S' := [.ref d, .ref d]) (pc' := 396) rfl ?_
          refine Goes.getF X 0 5 rfl rfl (wd hw 153 rfl) Via.refl ?_
          refine Goes.runS X [(.iconst 1, 1), (.iadd, 1)] (S' := [.int (ed + (1 : Int32)), .ref d]) (pc' := 401) rfl ?_
          refine Goes.putF X 0 5 rfl rfl (wd hw 153 rfl) Via.refl (Or.inl (wd hw 154 rfl)) (wd hw 7 rfl) (own_hn rfl rfl nd_Dig) (ty := .int) pf_2 rfl rfl ?_
          refine Goes.runS X [(.aload_n 0, 1)] (S' := [.ref d]) (pc' := 405) rfl ?_
          refine Goes.getF X 0 5 rfl rfl (wd hw 153 rfl) Via.refl ?_
          refine Goes.runS X [(.bipush 18, 2)] (S' := [.int (18 : Int32), .int (ed + (1 : Int32))]) (pc' := 410) rfl ?_
          refine Goes.if2 X (pc' := 431) (o := 21) (cd := .gt) (fun q19 => ?_) (fun q19 => ?_)
          · exact E dg mk 8 sg1 pl ne (ed + 1) ex k1 bs1 (by omega) hbs1 hst hen
          · refine Goes.runS X [(.aload_n 0, 1)] (S' := [.ref d]) (pc' := 414) rfl ?_
            refine Goes.ldcJ X (wd hw 155 rfl) ?_
            refine Goes.runS X [(.aload_n 0, 1)] (S' := [.ref d, .long (10 : Int64), .ref d]) (pc' := 418) rfl ?_
            refine Goes.getF X 0 6 rfl rfl (wd hw 156 rfl) Via.refl ?_
            refine Goes.runS X [(.lmul, 1), (.iload_n 1, 1), (.bipush 48, 2), (.isub, 1), (.i2l, 1), (.ladd, 1)] (S' := [.long (((10 : Int64) * ex) + ((c' - (48 : Int32))).toInt64), .ref d]) (pc' := 428) rfl ?_
            refine Goes.putF X 0 6 rfl rfl (wd hw 156 rfl) Via.refl (Or.inl (wd hw 157 rfl)) (wd hw 7 rfl) (own_hn rfl rfl nd_Dig) (ty := .long) pf_4 rfl rfl ?_
            exact E dg mk 8 sg1 pl ne (ed + 1) _ k1 bs1 (by omega) hbs1 hst hen
  have S : ∀ (dg mk nx : Int32), own_next st c' = nx → Goes p l e ({ frames := 4, cells := 0, slots := 0, locals := 53 } : Room) s m args below meth c Z a0 none s h0 h [(d, o_Dig (.int st) (.int en) (.long sig) (.long pl) (.int ne) (.int ed) (.long ex) (.ref u) (.ref h') (.int 0) (.int 0)), (u, o_SB (.ref b) (.int 0) (.int (Int32.ofNat k))), (b, oBs bs), (h', o_SB (hv) (.int 0) (.int 0))] ({ frames := 4, cells := 0, slots := 0, locals := 53 } : Room).cells ({ frames := 4, cells := 0, slots := 0, locals := 53 } : Room).slots (own_addQ d u h' b hv (own_st st c') (own_en en st c') k) [(d, o_Dig (.int st) (.int en) (.long sig) (.long pl) (.int ne) (.int ed) (.long ex) (.ref u) (.ref h') (.int 0) (.int 0)), (u, o_SB (.ref b) (.int 0) (.int (Int32.ofNat k))), (b, oBs bs), (h', o_SB (hv) (.int 0) (.int 0))] 0 0 (mkF m 246 #[.val (.ref d), .val (.int c'), .val (.int dg), .val (.int mk), .unset] [.int nx]) := by
    intro dg mk nx hnx
    refine Goes.run X [(.istore 4, 2), (.iload 4, 2), (.bipush 9, 2)] (L' := #[.val (.ref d), .val (.int c'), .val (.int dg), .val (.int mk), .val (.int nx)]) (S' := [.int (9 : Int32), .int nx]) (pc' := 252) rfl ?_
    refine Goes.if2 X (pc' := 262) (o := 10) (cd := .ne) (fun q20 => ?_) (fun q20 => ?_)
    · have h21 : ¬ nx = 9 := by simpa [if_icmp.holds] using q20
      have hst : own_st st c' = nx := by unfold own_st; rw [hnx, if_neg h21]
      have hen : own_en en st c' = en := by unfold own_en; rw [hnx, if_neg h21]
      have hx8 : nx = 1 ∨ nx = 2 ∨ nx = 3 ∨ nx = 4 ∨ nx = 5 ∨ nx = 6 ∨ nx = 7 ∨ nx = 8 := own_18 hnx h21
      refine Goes.runS X [(.aload_n 0, 1)] (S' := [.ref d]) (pc' := 263) rfl ?_
      refine Goes.getF X 0 0 rfl rfl (wd hw 15 rfl) Via.refl ?_
      refine Goes.runS X [(.iconst 2, 1)] (S' := [.int (2 : Int32), .int st]) (pc' := 267) rfl ?_
      refine Goes.if2 X (pc' := 282) (o := 15) (cd := .ne) (fun q22 => ?_) (fun q22 => ?_)
      · have h23 : ¬ st = 2 := by simpa [if_icmp.holds] using q22
        exact M dg mk nx sig k bs (by omega) hbs hx8 hst hen
      · have h24 : st = 2 := by simpa [if_icmp.holds] using q22
        refine Goes.runS X [(.iload 4, 2), (.iconst 3, 1)] (S' := [.int (3 : Int32), .int nx]) (pc' := 273) rfl ?_
        refine Goes.if2 X (pc' := 282) (o := 9) (cd := .ne) (fun q25 => ?_) (fun q25 => ?_)
        · exact M dg mk nx sig k bs (by omega) hbs hx8 hst hen
        · refine Goes.runS X [(.aload_n 0, 1), (.bipush 48, 2)] (S' := [.int (48 : Int32), .ref d]) (pc' := 279) rfl ?_
          refine Goes.callP X 0 0 [0, 1, 2] [3] rfl (D_sg l Z a0 h0 hw cs hCS hcs d u h' b (.int st) (.int en) (.long pl) (.int ne) (.int ed) (.long ex) sig k hk16 bs hbs 48 (by decide)) (wd hw 121 rfl) (wd hw 122 rfl) (wd hw 123 rfl) (nf_inst X (wd hw 7 rfl)) (wd hw 8 rfl) (wd hw 124 rfl) pd_y_19 rfl (st := []) rfl rfl (G := [(h', o_SB (hv) (.int 0) (.int 0))]) rfl rfl ?_
          rintro _ _ ⟨rfl, rfl⟩
          refine ⟨Or.inl rfl, ?_⟩
          refine Goes.sub [0, 1, 2, 3] (G := [(d, o_Dig (.int st) (.int en) (.long (sig + 1)) (.long pl) (.int ne) (.int ed) (.long ex) (.ref u) (.ref h') (.int 0) (.int 0)), (u, o_SB (.ref b) (.int 0) (.int (Int32.ofNat (k + 1)))), (b, oBs (bs.set k (.int (oI2b 48)))), (h', o_SB (hv) (.int 0) (.int 0))]) rfl ?_
          exact M dg mk nx (sig + 1) (k + 1) _ (by omega) (by rw [List.length_set]; exact hbs) hx8 hst hen
    · have h26 : nx = 9 := by simpa [if_icmp.holds] using q20
      have hst : own_st st c' = st := by unfold own_st; rw [hnx, if_pos h26]
      have hen : own_en en st c' = 1 := by unfold own_en; rw [hnx, if_pos h26]
      refine Goes.runS X [(.aload_n 0, 1), (.iconst 1, 1)] (S' := [.int (1 : Int32), .ref d]) (pc' := 257) rfl ?_
      refine Goes.putF X 0 1 rfl rfl (wd hw 55 rfl) Via.refl (Or.inl (wd hw 56 rfl)) (wd hw 7 rfl) (own_hn rfl rfl nd_Dig) (ty := .boolean) pf_5 rfl rfl ?_
      refine Goes.runS X [(.iconst 0, 1)] (S' := [.int (0 : Int32)]) (pc' := 261) rfl ?_
      refine Goes.retI X (by simp) rfl ?_
      exact ⟨0, sig, pl, ne, ed, ex, k, bs, rfl, by omega, hbs, by rw [hst, hen] <;> rfl⟩
  refine Goes.runS X [(.iload_n 1, 1)] (S' := [.int c']) (pc' := 1) rfl ?_
  refine Goes.callSN X 0 [] [0, 1, 2, 3] (D_isd l Z a0 h0 hw c') (wd hw 71 rfl) (wd hw 72 rfl) (wd hw 73 rfl) (wd hw 74 rfl) pd_y_10 rfl (st := []) rfl rfl (G := [(d, o_Dig (.int st) (.int en) (.long sig) (.long pl) (.int ne) (.int ed) (.long ex) (.ref u) (.ref h') (.int 0) (.int 0)), (u, o_SB (.ref b) (.int 0) (.int (Int32.ofNat k))), (b, oBs bs), (h', o_SB (hv) (.int 0) (.int 0))]) rfl rfl ?_
  rintro _ _ ⟨rfl, rfl⟩
  refine ⟨Or.inr (Or.inr fun _ q => Or.inr (Or.inr q)), ?_⟩
  refine Goes.run X [(.istore_n 2, 1), (.iload_n 1, 1), (.bipush 101, 2)] (L' := #[.val (.ref d), .val (.int c'), .val (.int (own_dig c')), .unset, .unset]) (S' := [.int (101 : Int32), .int c']) (pc' := 8) rfl ?_
  refine Goes.if2 X (pc' := 17) (o := 9) (cd := .eq) (fun q27 => ?_) (fun q27 => ?_)
  · have h28 : c' = 101 := by simpa [if_icmp.holds] using q27
    refine Goes.runS X [(.iconst 1, 1)] (S' := [.int (1 : Int32)]) (pc' := 18) rfl ?_
    refine Goes.goto X (o := 4) (pc' := 22) ?_
    refine Goes.run X [(.istore_n 3, 1), (.aload_n 0, 1)] (L' := #[.val (.ref d), .val (.int c'), .val (.int (own_dig c')), .val (.int (1 : Int32)), .unset]) (S' := [.ref d]) (pc' := 24) rfl ?_
    refine Goes.getF X 0 0 rfl rfl (wd hw 15 rfl) Via.refl ?_
    rcases hok with rfl | rfl | rfl | rfl | rfl | rfl | rfl | rfl | rfl
    · show Goes _ _ _ _ _ _ _ _ _ _ _ _ _ _ _ _ _ _ _ _ [(d, o_Dig (.int (0 : Int32)) (.int en) (.long sig) (.long pl) (.int ne) (.int ed) (.long ex) (.ref u) (.ref h') (.int 0) (.int 0)), (u, o_SB (.ref b) (.int 0) (.int (Int32.ofNat k))), (b, oBs bs), (h', o_SB (hv) (.int 0) (.int 0))] 0 0 (mkF m 27 #[.val (.ref d), .val (.int c'), .val (.int (own_dig c')), .val (.int (1 : Int32)), .unset] [.int (0 : Int32)])
      refine Goes.tsw X (o := 49) (pc' := 76) (len := 49) (dflt := 217) (low := 0) (high := 8) (offs := #[49, 82, 105, 105, 137, 150, 172, 203, 203]) (by decide) (by decide) ?_
      show Goes _ _ _ _ _ _ _ _ _ _ _ _ _ _ _ _ _ _ _ _ [(d, o_Dig (.int (0 : Int32)) (.int en) (.long sig) (.long pl) (.int ne) (.int ed) (.long ex) (.ref u) (.ref h') (.int 0) (.int 0)), (u, o_SB (.ref b) (.int 0) (.int (Int32.ofNat k))), (b, oBs bs), (h', o_SB (hv) (.int 0) (.int 0))] 0 0 (mkF m 76 #[.val (.ref d), .val (.int c'), .val (.int (own_dig c')), .val (.int (1 : Int32)), .unset] [])
      refine Goes.runS X [(.iload_n 1, 1), (.bipush 45, 2)] (S' := [.int (45 : Int32), .int c']) (pc' := 79) rfl ?_
      refine Goes.if2 X (pc' := 86) (o := 7) (cd := .ne) (fun q29 => ?_) (fun q29 => ?_)
      · have h30 : ¬ c' = (45 : Int32) := by simpa [if_icmp.holds] using q29
        refine Goes.runS X [(.iload_n 1, 1), (.bipush 48, 2)] (S' := [.int (48 : Int32), .int c']) (pc' := 89) rfl ?_
        refine Goes.if2 X (pc' := 96) (o := 7) (cd := .ne) (fun q31 => ?_) (fun q31 => ?_)
        · have h32 : ¬ c' = (48 : Int32) := by simpa [if_icmp.holds] using q31
          refine Goes.runS X [(.iload_n 2, 1)] (S' := [.int (own_dig c')]) (pc' := 97) rfl ?_
          refine Goes.if1 X (pc' := 104) (o := 7) (cd := .eq) (fun q33 => ?_) (fun q33 => ?_)
          · have h34 : (own_dig c') = 0 := by simpa [ifCond.holds] using q33
            refine Goes.runS X [(.bipush 9, 2)] (S' := [.int (9 : Int32)]) (pc' := 106) rfl ?_
            refine Goes.goto X (o := 140) (pc' := 246) ?_
            exact S _ _ _ (by clear hw hCS E M S X; simp_all [own_next, own_d0])
          · have h35 : ¬ (own_dig c') = 0 := by simpa [ifCond.holds] using q33
            refine Goes.runS X [(.iconst 3, 1)] (S' := [.int (3 : Int32)]) (pc' := 101) rfl ?_
            refine Goes.goto X (o := 145) (pc' := 246) ?_
            exact S _ _ _ (by clear hw hCS E M S X; simp_all [own_next, own_d0])
        · have h36 : c' = (48 : Int32) := by simpa [if_icmp.holds] using q31
          refine Goes.runS X [(.iconst 2, 1)] (S' := [.int (2 : Int32)]) (pc' := 93) rfl ?_
          refine Goes.goto X (o := 153) (pc' := 246) ?_
          exact S _ _ _ (by clear hw hCS E M S X; simp_all [own_next, own_d0])
      · have h37 : c' = (45 : Int32) := by simpa [if_icmp.holds] using q29
        refine Goes.runS X [(.iconst 1, 1)] (S' := [.int (1 : Int32)]) (pc' := 83) rfl ?_
        refine Goes.goto X (o := 163) (pc' := 246) ?_
        exact S _ _ _ (by clear hw hCS E M S X; simp_all [own_next, own_d0])
    · show Goes _ _ _ _ _ _ _ _ _ _ _ _ _ _ _ _ _ _ _ _ [(d, o_Dig (.int (1 : Int32)) (.int en) (.long sig) (.long pl) (.int ne) (.int ed) (.long ex) (.ref u) (.ref h') (.int 0) (.int 0)), (u, o_SB (.ref b) (.int 0) (.int (Int32.ofNat k))), (b, oBs bs), (h', o_SB (hv) (.int 0) (.int 0))] 0 0 (mkF m 27 #[.val (.ref d), .val (.int c'), .val (.int (own_dig c')), .val (.int (1 : Int32)), .unset] [.int (1 : Int32)])
      refine Goes.tsw X (o := 82) (pc' := 109) (len := 49) (dflt := 217) (low := 0) (high := 8) (offs := #[49, 82, 105, 105, 137, 150, 172, 203, 203]) (by decide) (by decide) ?_
      show Goes _ _ _ _ _ _ _ _ _ _ _ _ _ _ _ _ _ _ _ _ [(d, o_Dig (.int (1 : Int32)) (.int en) (.long sig) (.long pl) (.int ne) (.int ed) (.long ex) (.ref u) (.ref h') (.int 0) (.int 0)), (u, o_SB (.ref b) (.int 0) (.int (Int32.ofNat k))), (b, oBs bs), (h', o_SB (hv) (.int 0) (.int 0))] 0 0 (mkF m 109 #[.val (.ref d), .val (.int c'), .val (.int (own_dig c')), .val (.int (1 : Int32)), .unset] [])
      refine Goes.runS X [(.iload_n 1, 1), (.bipush 48, 2)] (S' := [.int (48 : Int32), .int c']) (pc' := 112) rfl ?_
      refine Goes.if2 X (pc' := 119) (o := 7) (cd := .ne) (fun q38 => ?_) (fun q38 => ?_)
      · have h39 : ¬ c' = (48 : Int32) := by simpa [if_icmp.holds] using q38
        refine Goes.runS X [(.iload_n 2, 1)] (S' := [.int (own_dig c')]) (pc' := 120) rfl ?_
        refine Goes.if1 X (pc' := 127) (o := 7) (cd := .eq) (fun q40 => ?_) (fun q40 => ?_)
        · have h41 : (own_dig c') = 0 := by simpa [ifCond.holds] using q40
          refine Goes.runS X [(.bipush 9, 2)] (S' := [.int (9 : Int32)]) (pc' := 129) rfl ?_
          refine Goes.goto X (o := 117) (pc' := 246) ?_
          exact S _ _ _ (by clear hw hCS E M S X; simp_all [own_next, own_d0])
        · have h42 : ¬ (own_dig c') = 0 := by simpa [ifCond.holds] using q40
          refine Goes.runS X [(.iconst 3, 1)] (S' := [.int (3 : Int32)]) (pc' := 124) rfl ?_
          refine Goes.goto X (o := 122) (pc' := 246) ?_
          exact S _ _ _ (by clear hw hCS E M S X; simp_all [own_next, own_d0])
      · have h43 : c' = (48 : Int32) := by simpa [if_icmp.holds] using q38
        refine Goes.runS X [(.iconst 2, 1)] (S' := [.int (2 : Int32)]) (pc' := 116) rfl ?_
        refine Goes.goto X (o := 130) (pc' := 246) ?_
        exact S _ _ _ (by clear hw hCS E M S X; simp_all [own_next, own_d0])
    · show Goes _ _ _ _ _ _ _ _ _ _ _ _ _ _ _ _ _ _ _ _ [(d, o_Dig (.int (2 : Int32)) (.int en) (.long sig) (.long pl) (.int ne) (.int ed) (.long ex) (.ref u) (.ref h') (.int 0) (.int 0)), (u, o_SB (.ref b) (.int 0) (.int (Int32.ofNat k))), (b, oBs bs), (h', o_SB (hv) (.int 0) (.int 0))] 0 0 (mkF m 27 #[.val (.ref d), .val (.int c'), .val (.int (own_dig c')), .val (.int (1 : Int32)), .unset] [.int (2 : Int32)])
      refine Goes.tsw X (o := 105) (pc' := 132) (len := 49) (dflt := 217) (low := 0) (high := 8) (offs := #[49, 82, 105, 105, 137, 150, 172, 203, 203]) (by decide) (by decide) ?_
      show Goes _ _ _ _ _ _ _ _ _ _ _ _ _ _ _ _ _ _ _ _ [(d, o_Dig (.int (2 : Int32)) (.int en) (.long sig) (.long pl) (.int ne) (.int ed) (.long ex) (.ref u) (.ref h') (.int 0) (.int 0)), (u, o_SB (.ref b) (.int 0) (.int (Int32.ofNat k))), (b, oBs bs), (h', o_SB (hv) (.int 0) (.int 0))] 0 0 (mkF m 132 #[.val (.ref d), .val (.int c'), .val (.int (own_dig c')), .val (.int (1 : Int32)), .unset] [])
      refine Goes.runS X [(.iload_n 2, 1)] (S' := [.int (own_dig c')]) (pc' := 133) rfl ?_
      refine Goes.if1 X (pc' := 140) (o := 7) (cd := .eq) (fun q44 => ?_) (fun q44 => ?_)
      · have h45 : (own_dig c') = 0 := by simpa [ifCond.holds] using q44
        refine Goes.runS X [(.iload_n 1, 1), (.bipush 46, 2)] (S' := [.int (46 : Int32), .int c']) (pc' := 143) rfl ?_
        refine Goes.if2 X (pc' := 150) (o := 7) (cd := .ne) (fun q46 => ?_) (fun q46 => ?_)
        · have h47 : ¬ c' = (46 : Int32) := by simpa [if_icmp.holds] using q46
          refine Goes.runS X [(.iload_n 3, 1)] (S' := [.int (1 : Int32)]) (pc' := 151) rfl ?_
          refine Goes.if1 X (pc' := 159) (o := 8) (cd := .eq) (fun q => absurd q (by decide)) (fun _ => ?_)
          refine Goes.runS X [(.bipush 6, 2)] (S' := [.int (6 : Int32)]) (pc' := 156) rfl ?_
          refine Goes.goto X (o := 90) (pc' := 246) ?_
          exact S _ _ _ (by clear hw hCS E M S X; simp_all [own_next, own_d0])
        · have h48 : c' = (46 : Int32) := by simpa [if_icmp.holds] using q46
          refine Goes.runS X [(.iconst 4, 1)] (S' := [.int (4 : Int32)]) (pc' := 147) rfl ?_
          refine Goes.goto X (o := 99) (pc' := 246) ?_
          exact S _ _ _ (by clear hw hCS E M S X; simp_all [own_next, own_d0])
      · have h49 : ¬ (own_dig c') = 0 := by simpa [ifCond.holds] using q44
        refine Goes.runS X [(.iconst 3, 1)] (S' := [.int (3 : Int32)]) (pc' := 137) rfl ?_
        refine Goes.goto X (o := 109) (pc' := 246) ?_
        exact S _ _ _ (by clear hw hCS E M S X; simp_all [own_next, own_d0])
    · show Goes _ _ _ _ _ _ _ _ _ _ _ _ _ _ _ _ _ _ _ _ [(d, o_Dig (.int (3 : Int32)) (.int en) (.long sig) (.long pl) (.int ne) (.int ed) (.long ex) (.ref u) (.ref h') (.int 0) (.int 0)), (u, o_SB (.ref b) (.int 0) (.int (Int32.ofNat k))), (b, oBs bs), (h', o_SB (hv) (.int 0) (.int 0))] 0 0 (mkF m 27 #[.val (.ref d), .val (.int c'), .val (.int (own_dig c')), .val (.int (1 : Int32)), .unset] [.int (3 : Int32)])
      refine Goes.tsw X (o := 105) (pc' := 132) (len := 49) (dflt := 217) (low := 0) (high := 8) (offs := #[49, 82, 105, 105, 137, 150, 172, 203, 203]) (by decide) (by decide) ?_
      show Goes _ _ _ _ _ _ _ _ _ _ _ _ _ _ _ _ _ _ _ _ [(d, o_Dig (.int (3 : Int32)) (.int en) (.long sig) (.long pl) (.int ne) (.int ed) (.long ex) (.ref u) (.ref h') (.int 0) (.int 0)), (u, o_SB (.ref b) (.int 0) (.int (Int32.ofNat k))), (b, oBs bs), (h', o_SB (hv) (.int 0) (.int 0))] 0 0 (mkF m 132 #[.val (.ref d), .val (.int c'), .val (.int (own_dig c')), .val (.int (1 : Int32)), .unset] [])
      refine Goes.runS X [(.iload_n 2, 1)] (S' := [.int (own_dig c')]) (pc' := 133) rfl ?_
      refine Goes.if1 X (pc' := 140) (o := 7) (cd := .eq) (fun q50 => ?_) (fun q50 => ?_)
      · have h51 : (own_dig c') = 0 := by simpa [ifCond.holds] using q50
        refine Goes.runS X [(.iload_n 1, 1), (.bipush 46, 2)] (S' := [.int (46 : Int32), .int c']) (pc' := 143) rfl ?_
        refine Goes.if2 X (pc' := 150) (o := 7) (cd := .ne) (fun q52 => ?_) (fun q52 => ?_)
        · have h53 : ¬ c' = (46 : Int32) := by simpa [if_icmp.holds] using q52
          refine Goes.runS X [(.iload_n 3, 1)] (S' := [.int (1 : Int32)]) (pc' := 151) rfl ?_
          refine Goes.if1 X (pc' := 159) (o := 8) (cd := .eq) (fun q => absurd q (by decide)) (fun _ => ?_)
          refine Goes.runS X [(.bipush 6, 2)] (S' := [.int (6 : Int32)]) (pc' := 156) rfl ?_
          refine Goes.goto X (o := 90) (pc' := 246) ?_
          exact S _ _ _ (by clear hw hCS E M S X; simp_all [own_next, own_d0])
        · have h54 : c' = (46 : Int32) := by simpa [if_icmp.holds] using q52
          refine Goes.runS X [(.iconst 4, 1)] (S' := [.int (4 : Int32)]) (pc' := 147) rfl ?_
          refine Goes.goto X (o := 99) (pc' := 246) ?_
          exact S _ _ _ (by clear hw hCS E M S X; simp_all [own_next, own_d0])
      · have h55 : ¬ (own_dig c') = 0 := by simpa [ifCond.holds] using q50
        refine Goes.runS X [(.iconst 3, 1)] (S' := [.int (3 : Int32)]) (pc' := 137) rfl ?_
        refine Goes.goto X (o := 109) (pc' := 246) ?_
        exact S _ _ _ (by clear hw hCS E M S X; simp_all [own_next, own_d0])
    · show Goes _ _ _ _ _ _ _ _ _ _ _ _ _ _ _ _ _ _ _ _ [(d, o_Dig (.int (4 : Int32)) (.int en) (.long sig) (.long pl) (.int ne) (.int ed) (.long ex) (.ref u) (.ref h') (.int 0) (.int 0)), (u, o_SB (.ref b) (.int 0) (.int (Int32.ofNat k))), (b, oBs bs), (h', o_SB (hv) (.int 0) (.int 0))] 0 0 (mkF m 27 #[.val (.ref d), .val (.int c'), .val (.int (own_dig c')), .val (.int (1 : Int32)), .unset] [.int (4 : Int32)])
      refine Goes.tsw X (o := 137) (pc' := 164) (len := 49) (dflt := 217) (low := 0) (high := 8) (offs := #[49, 82, 105, 105, 137, 150, 172, 203, 203]) (by decide) (by decide) ?_
      show Goes _ _ _ _ _ _ _ _ _ _ _ _ _ _ _ _ _ _ _ _ [(d, o_Dig (.int (4 : Int32)) (.int en) (.long sig) (.long pl) (.int ne) (.int ed) (.long ex) (.ref u) (.ref h') (.int 0) (.int 0)), (u, o_SB (.ref b) (.int 0) (.int (Int32.ofNat k))), (b, oBs bs), (h', o_SB (hv) (.int 0) (.int 0))] 0 0 (mkF m 164 #[.val (.ref d), .val (.int c'), .val (.int (own_dig c')), .val (.int (1 : Int32)), .unset] [])
      refine Goes.runS X [(.iload_n 2, 1)] (S' := [.int (own_dig c')]) (pc' := 165) rfl ?_
      refine Goes.if1 X (pc' := 172) (o := 7) (cd := .eq) (fun q56 => ?_) (fun q56 => ?_)
      · have h57 : (own_dig c') = 0 := by simpa [ifCond.holds] using q56
        refine Goes.runS X [(.bipush 9, 2)] (S' := [.int (9 : Int32)]) (pc' := 174) rfl ?_
        refine Goes.goto X (o := 72) (pc' := 246) ?_
        exact S _ _ _ (by clear hw hCS E M S X; simp_all [own_next, own_d0])
      · have h58 : ¬ (own_dig c') = 0 := by simpa [ifCond.holds] using q56
        refine Goes.runS X [(.iconst 5, 1)] (S' := [.int (5 : Int32)]) (pc' := 169) rfl ?_
        refine Goes.goto X (o := 77) (pc' := 246) ?_
        exact S _ _ _ (by clear hw hCS E M S X; simp_all [own_next, own_d0])
    · show Goes _ _ _ _ _ _ _ _ _ _ _ _ _ _ _ _ _ _ _ _ [(d, o_Dig (.int (5 : Int32)) (.int en) (.long sig) (.long pl) (.int ne) (.int ed) (.long ex) (.ref u) (.ref h') (.int 0) (.int 0)), (u, o_SB (.ref b) (.int 0) (.int (Int32.ofNat k))), (b, oBs bs), (h', o_SB (hv) (.int 0) (.int 0))] 0 0 (mkF m 27 #[.val (.ref d), .val (.int c'), .val (.int (own_dig c')), .val (.int (1 : Int32)), .unset] [.int (5 : Int32)])
      refine Goes.tsw X (o := 150) (pc' := 177) (len := 49) (dflt := 217) (low := 0) (high := 8) (offs := #[49, 82, 105, 105, 137, 150, 172, 203, 203]) (by decide) (by decide) ?_
      show Goes _ _ _ _ _ _ _ _ _ _ _ _ _ _ _ _ _ _ _ _ [(d, o_Dig (.int (5 : Int32)) (.int en) (.long sig) (.long pl) (.int ne) (.int ed) (.long ex) (.ref u) (.ref h') (.int 0) (.int 0)), (u, o_SB (.ref b) (.int 0) (.int (Int32.ofNat k))), (b, oBs bs), (h', o_SB (hv) (.int 0) (.int 0))] 0 0 (mkF m 177 #[.val (.ref d), .val (.int c'), .val (.int (own_dig c')), .val (.int (1 : Int32)), .unset] [])
      refine Goes.runS X [(.iload_n 2, 1)] (S' := [.int (own_dig c')]) (pc' := 178) rfl ?_
      refine Goes.if1 X (pc' := 185) (o := 7) (cd := .eq) (fun q59 => ?_) (fun q59 => ?_)
      · have h60 : (own_dig c') = 0 := by simpa [ifCond.holds] using q59
        refine Goes.runS X [(.iload_n 3, 1)] (S' := [.int (1 : Int32)]) (pc' := 186) rfl ?_
        refine Goes.if1 X (pc' := 194) (o := 8) (cd := .eq) (fun q => absurd q (by decide)) (fun _ => ?_)
        refine Goes.runS X [(.bipush 6, 2)] (S' := [.int (6 : Int32)]) (pc' := 191) rfl ?_
        refine Goes.goto X (o := 55) (pc' := 246) ?_
        exact S _ _ _ (by clear hw hCS E M S X; simp_all [own_next, own_d0])
      · have h61 : ¬ (own_dig c') = 0 := by simpa [ifCond.holds] using q59
        refine Goes.runS X [(.iconst 5, 1)] (S' := [.int (5 : Int32)]) (pc' := 182) rfl ?_
        refine Goes.goto X (o := 64) (pc' := 246) ?_
        exact S _ _ _ (by clear hw hCS E M S X; simp_all [own_next, own_d0])
    · show Goes _ _ _ _ _ _ _ _ _ _ _ _ _ _ _ _ _ _ _ _ [(d, o_Dig (.int (6 : Int32)) (.int en) (.long sig) (.long pl) (.int ne) (.int ed) (.long ex) (.ref u) (.ref h') (.int 0) (.int 0)), (u, o_SB (.ref b) (.int 0) (.int (Int32.ofNat k))), (b, oBs bs), (h', o_SB (hv) (.int 0) (.int 0))] 0 0 (mkF m 27 #[.val (.ref d), .val (.int c'), .val (.int (own_dig c')), .val (.int (1 : Int32)), .unset] [.int (6 : Int32)])
      refine Goes.tsw X (o := 172) (pc' := 199) (len := 49) (dflt := 217) (low := 0) (high := 8) (offs := #[49, 82, 105, 105, 137, 150, 172, 203, 203]) (by decide) (by decide) ?_
      show Goes _ _ _ _ _ _ _ _ _ _ _ _ _ _ _ _ _ _ _ _ [(d, o_Dig (.int (6 : Int32)) (.int en) (.long sig) (.long pl) (.int ne) (.int ed) (.long ex) (.ref u) (.ref h') (.int 0) (.int 0)), (u, o_SB (.ref b) (.int 0) (.int (Int32.ofNat k))), (b, oBs bs), (h', o_SB (hv) (.int 0) (.int 0))] 0 0 (mkF m 199 #[.val (.ref d), .val (.int c'), .val (.int (own_dig c')), .val (.int (1 : Int32)), .unset] [])
      refine Goes.runS X [(.iload_n 1, 1), (.bipush 45, 2)] (S' := [.int (45 : Int32), .int c']) (pc' := 202) rfl ?_
      refine Goes.if2 X (pc' := 211) (o := 9) (cd := .eq) (fun q62 => ?_) (fun q62 => ?_)
      · have h63 : c' = (45 : Int32) := by simpa [if_icmp.holds] using q62
        refine Goes.runS X [(.bipush 7, 2)] (S' := [.int (7 : Int32)]) (pc' := 213) rfl ?_
        refine Goes.goto X (o := 33) (pc' := 246) ?_
        exact S _ _ _ (by clear hw hCS E M S X; simp_all [own_next, own_d0])
      · have h64 : ¬ c' = (45 : Int32) := by simpa [if_icmp.holds] using q62
        refine Goes.runS X [(.iload_n 1, 1), (.bipush 43, 2)] (S' := [.int (43 : Int32), .int c']) (pc' := 208) rfl ?_
        refine Goes.if2 X (pc' := 216) (o := 8) (cd := .ne) (fun q65 => ?_) (fun q65 => ?_)
        · have h66 : ¬ c' = (43 : Int32) := by simpa [if_icmp.holds] using q65
          refine Goes.runS X [(.iload_n 2, 1)] (S' := [.int (own_dig c')]) (pc' := 217) rfl ?_
          refine Goes.if1 X (pc' := 225) (o := 8) (cd := .eq) (fun q67 => ?_) (fun q67 => ?_)
          · have h68 : (own_dig c') = 0 := by simpa [ifCond.holds] using q67
            refine Goes.runS X [(.bipush 9, 2)] (S' := [.int (9 : Int32)]) (pc' := 227) rfl ?_
            refine Goes.goto X (o := 19) (pc' := 246) ?_
            exact S _ _ _ (by clear hw hCS E M S X; simp_all [own_next, own_d0])
          · have h69 : ¬ (own_dig c') = 0 := by simpa [ifCond.holds] using q67
            refine Goes.runS X [(.bipush 8, 2)] (S' := [.int (8 : Int32)]) (pc' := 222) rfl ?_
            refine Goes.goto X (o := 24) (pc' := 246) ?_
            exact S _ _ _ (by clear hw hCS E M S X; simp_all [own_next, own_d0])
        · have h70 : c' = (43 : Int32) := by simpa [if_icmp.holds] using q65
          refine Goes.runS X [(.bipush 7, 2)] (S' := [.int (7 : Int32)]) (pc' := 213) rfl ?_
          refine Goes.goto X (o := 33) (pc' := 246) ?_
          exact S _ _ _ (by clear hw hCS E M S X; simp_all [own_next, own_d0])
    · show Goes _ _ _ _ _ _ _ _ _ _ _ _ _ _ _ _ _ _ _ _ [(d, o_Dig (.int (7 : Int32)) (.int en) (.long sig) (.long pl) (.int ne) (.int ed) (.long ex) (.ref u) (.ref h') (.int 0) (.int 0)), (u, o_SB (.ref b) (.int 0) (.int (Int32.ofNat k))), (b, oBs bs), (h', o_SB (hv) (.int 0) (.int 0))] 0 0 (mkF m 27 #[.val (.ref d), .val (.int c'), .val (.int (own_dig c')), .val (.int (1 : Int32)), .unset] [.int (7 : Int32)])
      refine Goes.tsw X (o := 203) (pc' := 230) (len := 49) (dflt := 217) (low := 0) (high := 8) (offs := #[49, 82, 105, 105, 137, 150, 172, 203, 203]) (by decide) (by decide) ?_
      show Goes _ _ _ _ _ _ _ _ _ _ _ _ _ _ _ _ _ _ _ _ [(d, o_Dig (.int (7 : Int32)) (.int en) (.long sig) (.long pl) (.int ne) (.int ed) (.long ex) (.ref u) (.ref h') (.int 0) (.int 0)), (u, o_SB (.ref b) (.int 0) (.int (Int32.ofNat k))), (b, oBs bs), (h', o_SB (hv) (.int 0) (.int 0))] 0 0 (mkF m 230 #[.val (.ref d), .val (.int c'), .val (.int (own_dig c')), .val (.int (1 : Int32)), .unset] [])
      refine Goes.runS X [(.iload_n 2, 1)] (S' := [.int (own_dig c')]) (pc' := 231) rfl ?_
      refine Goes.if1 X (pc' := 239) (o := 8) (cd := .eq) (fun q71 => ?_) (fun q71 => ?_)
      · have h72 : (own_dig c') = 0 := by simpa [ifCond.holds] using q71
        refine Goes.runS X [(.bipush 9, 2)] (S' := [.int (9 : Int32)]) (pc' := 241) rfl ?_
        refine Goes.goto X (o := 5) (pc' := 246) ?_
        exact S _ _ _ (by clear hw hCS E M S X; simp_all [own_next, own_d0])
      · have h73 : ¬ (own_dig c') = 0 := by simpa [ifCond.holds] using q71
        refine Goes.runS X [(.bipush 8, 2)] (S' := [.int (8 : Int32)]) (pc' := 236) rfl ?_
        refine Goes.goto X (o := 10) (pc' := 246) ?_
        exact S _ _ _ (by clear hw hCS E M S X; simp_all [own_next, own_d0])
    · show Goes _ _ _ _ _ _ _ _ _ _ _ _ _ _ _ _ _ _ _ _ [(d, o_Dig (.int (8 : Int32)) (.int en) (.long sig) (.long pl) (.int ne) (.int ed) (.long ex) (.ref u) (.ref h') (.int 0) (.int 0)), (u, o_SB (.ref b) (.int 0) (.int (Int32.ofNat k))), (b, oBs bs), (h', o_SB (hv) (.int 0) (.int 0))] 0 0 (mkF m 27 #[.val (.ref d), .val (.int c'), .val (.int (own_dig c')), .val (.int (1 : Int32)), .unset] [.int (8 : Int32)])
      refine Goes.tsw X (o := 203) (pc' := 230) (len := 49) (dflt := 217) (low := 0) (high := 8) (offs := #[49, 82, 105, 105, 137, 150, 172, 203, 203]) (by decide) (by decide) ?_
      show Goes _ _ _ _ _ _ _ _ _ _ _ _ _ _ _ _ _ _ _ _ [(d, o_Dig (.int (8 : Int32)) (.int en) (.long sig) (.long pl) (.int ne) (.int ed) (.long ex) (.ref u) (.ref h') (.int 0) (.int 0)), (u, o_SB (.ref b) (.int 0) (.int (Int32.ofNat k))), (b, oBs bs), (h', o_SB (hv) (.int 0) (.int 0))] 0 0 (mkF m 230 #[.val (.ref d), .val (.int c'), .val (.int (own_dig c')), .val (.int (1 : Int32)), .unset] [])
      refine Goes.runS X [(.iload_n 2, 1)] (S' := [.int (own_dig c')]) (pc' := 231) rfl ?_
      refine Goes.if1 X (pc' := 239) (o := 8) (cd := .eq) (fun q74 => ?_) (fun q74 => ?_)
      · have h75 : (own_dig c') = 0 := by simpa [ifCond.holds] using q74
        refine Goes.runS X [(.bipush 9, 2)] (S' := [.int (9 : Int32)]) (pc' := 241) rfl ?_
        refine Goes.goto X (o := 5) (pc' := 246) ?_
        exact S _ _ _ (by clear hw hCS E M S X; simp_all [own_next, own_d0])
      · have h76 : ¬ (own_dig c') = 0 := by simpa [ifCond.holds] using q74
        refine Goes.runS X [(.bipush 8, 2)] (S' := [.int (8 : Int32)]) (pc' := 236) rfl ?_
        refine Goes.goto X (o := 10) (pc' := 246) ?_
        exact S _ _ _ (by clear hw hCS E M S X; simp_all [own_next, own_d0])
  · have h77 : ¬ c' = 101 := by simpa [if_icmp.holds] using q27
    refine Goes.runS X [(.iload_n 1, 1), (.bipush 69, 2)] (S' := [.int (69 : Int32), .int c']) (pc' := 14) rfl ?_
    refine Goes.if2 X (pc' := 21) (o := 7) (cd := .ne) (fun q78 => ?_) (fun q78 => ?_)
    · have h79 : ¬ c' = 69 := by simpa [if_icmp.holds] using q78
      refine Goes.run X [(.iconst 0, 1), (.istore_n 3, 1), (.aload_n 0, 1)] (L' := #[.val (.ref d), .val (.int c'), .val (.int (own_dig c')), .val (.int (0 : Int32)), .unset]) (S' := [.ref d]) (pc' := 24) rfl ?_
      refine Goes.getF X 0 0 rfl rfl (wd hw 15 rfl) Via.refl ?_
      rcases hok with rfl | rfl | rfl | rfl | rfl | rfl | rfl | rfl | rfl
      · show Goes _ _ _ _ _ _ _ _ _ _ _ _ _ _ _ _ _ _ _ _ [(d, o_Dig (.int (0 : Int32)) (.int en) (.long sig) (.long pl) (.int ne) (.int ed) (.long ex) (.ref u) (.ref h') (.int 0) (.int 0)), (u, o_SB (.ref b) (.int 0) (.int (Int32.ofNat k))), (b, oBs bs), (h', o_SB (hv) (.int 0) (.int 0))] 0 0 (mkF m 27 #[.val (.ref d), .val (.int c'), .val (.int (own_dig c')), .val (.int (0 : Int32)), .unset] [.int (0 : Int32)])
        refine Goes.tsw X (o := 49) (pc' := 76) (len := 49) (dflt := 217) (low := 0) (high := 8) (offs := #[49, 82, 105, 105, 137, 150, 172, 203, 203]) (by decide) (by decide) ?_
        show Goes _ _ _ _ _ _ _ _ _ _ _ _ _ _ _ _ _ _ _ _ [(d, o_Dig (.int (0 : Int32)) (.int en) (.long sig) (.long pl) (.int ne) (.int ed) (.long ex) (.ref u) (.ref h') (.int 0) (.int 0)), (u, o_SB (.ref b) (.int 0) (.int (Int32.ofNat k))), (b, oBs bs), (h', o_SB (hv) (.int 0) (.int 0))] 0 0 (mkF m 76 #[.val (.ref d), .val (.int c'), .val (.int (own_dig c')), .val (.int (0 : Int32)), .unset] [])
        refine Goes.runS X [(.iload_n 1, 1), (.bipush 45, 2)] (S' := [.int (45 : Int32), .int c']) (pc' := 79) rfl ?_
        refine Goes.if2 X (pc' := 86) (o := 7) (cd := .ne) (fun q80 => ?_) (fun q80 => ?_)
        · have h81 : ¬ c' = (45 : Int32) := by simpa [if_icmp.holds] using q80
          refine Goes.runS X [(.iload_n 1, 1), (.bipush 48, 2)] (S' := [.int (48 : Int32), .int c']) (pc' := 89) rfl ?_
          refine Goes.if2 X (pc' := 96) (o := 7) (cd := .ne) (fun q82 => ?_) (fun q82 => ?_)
          · have h83 : ¬ c' = (48 : Int32) := by simpa [if_icmp.holds] using q82
            refine Goes.runS X [(.iload_n 2, 1)] (S' := [.int (own_dig c')]) (pc' := 97) rfl ?_
            refine Goes.if1 X (pc' := 104) (o := 7) (cd := .eq) (fun q84 => ?_) (fun q84 => ?_)
            · have h85 : (own_dig c') = 0 := by simpa [ifCond.holds] using q84
              refine Goes.runS X [(.bipush 9, 2)] (S' := [.int (9 : Int32)]) (pc' := 106) rfl ?_
              refine Goes.goto X (o := 140) (pc' := 246) ?_
              exact S _ _ _ (by clear hw hCS E M S X; simp_all [own_next, own_d0])
            · have h86 : ¬ (own_dig c') = 0 := by simpa [ifCond.holds] using q84
              refine Goes.runS X [(.iconst 3, 1)] (S' := [.int (3 : Int32)]) (pc' := 101) rfl ?_
              refine Goes.goto X (o := 145) (pc' := 246) ?_
              exact S _ _ _ (by clear hw hCS E M S X; simp_all [own_next, own_d0])
          · have h87 : c' = (48 : Int32) := by simpa [if_icmp.holds] using q82
            refine Goes.runS X [(.iconst 2, 1)] (S' := [.int (2 : Int32)]) (pc' := 93) rfl ?_
            refine Goes.goto X (o := 153) (pc' := 246) ?_
            exact S _ _ _ (by clear hw hCS E M S X; simp_all [own_next, own_d0])
        · have h88 : c' = (45 : Int32) := by simpa [if_icmp.holds] using q80
          refine Goes.runS X [(.iconst 1, 1)] (S' := [.int (1 : Int32)]) (pc' := 83) rfl ?_
          refine Goes.goto X (o := 163) (pc' := 246) ?_
          exact S _ _ _ (by clear hw hCS E M S X; simp_all [own_next, own_d0])
      · show Goes _ _ _ _ _ _ _ _ _ _ _ _ _ _ _ _ _ _ _ _ [(d, o_Dig (.int (1 : Int32)) (.int en) (.long sig) (.long pl) (.int ne) (.int ed) (.long ex) (.ref u) (.ref h') (.int 0) (.int 0)), (u, o_SB (.ref b) (.int 0) (.int (Int32.ofNat k))), (b, oBs bs), (h', o_SB (hv) (.int 0) (.int 0))] 0 0 (mkF m 27 #[.val (.ref d), .val (.int c'), .val (.int (own_dig c')), .val (.int (0 : Int32)), .unset] [.int (1 : Int32)])
        refine Goes.tsw X (o := 82) (pc' := 109) (len := 49) (dflt := 217) (low := 0) (high := 8) (offs := #[49, 82, 105, 105, 137, 150, 172, 203, 203]) (by decide) (by decide) ?_
        show Goes _ _ _ _ _ _ _ _ _ _ _ _ _ _ _ _ _ _ _ _ [(d, o_Dig (.int (1 : Int32)) (.int en) (.long sig) (.long pl) (.int ne) (.int ed) (.long ex) (.ref u) (.ref h') (.int 0) (.int 0)), (u, o_SB (.ref b) (.int 0) (.int (Int32.ofNat k))), (b, oBs bs), (h', o_SB (hv) (.int 0) (.int 0))] 0 0 (mkF m 109 #[.val (.ref d), .val (.int c'), .val (.int (own_dig c')), .val (.int (0 : Int32)), .unset] [])
        refine Goes.runS X [(.iload_n 1, 1), (.bipush 48, 2)] (S' := [.int (48 : Int32), .int c']) (pc' := 112) rfl ?_
        refine Goes.if2 X (pc' := 119) (o := 7) (cd := .ne) (fun q89 => ?_) (fun q89 => ?_)
        · have h90 : ¬ c' = (48 : Int32) := by simpa [if_icmp.holds] using q89
          refine Goes.runS X [(.iload_n 2, 1)] (S' := [.int (own_dig c')]) (pc' := 120) rfl ?_
          refine Goes.if1 X (pc' := 127) (o := 7) (cd := .eq) (fun q91 => ?_) (fun q91 => ?_)
          · have h92 : (own_dig c') = 0 := by simpa [ifCond.holds] using q91
            refine Goes.runS X [(.bipush 9, 2)] (S' := [.int (9 : Int32)]) (pc' := 129) rfl ?_
            refine Goes.goto X (o := 117) (pc' := 246) ?_
            exact S _ _ _ (by clear hw hCS E M S X; simp_all [own_next, own_d0])
          · have h93 : ¬ (own_dig c') = 0 := by simpa [ifCond.holds] using q91
            refine Goes.runS X [(.iconst 3, 1)] (S' := [.int (3 : Int32)]) (pc' := 124) rfl ?_
            refine Goes.goto X (o := 122) (pc' := 246) ?_
            exact S _ _ _ (by clear hw hCS E M S X; simp_all [own_next, own_d0])
        · have h94 : c' = (48 : Int32) := by simpa [if_icmp.holds] using q89
          refine Goes.runS X [(.iconst 2, 1)] (S' := [.int (2 : Int32)]) (pc' := 116) rfl ?_
          refine Goes.goto X (o := 130) (pc' := 246) ?_
          exact S _ _ _ (by clear hw hCS E M S X; simp_all [own_next, own_d0])
      · show Goes _ _ _ _ _ _ _ _ _ _ _ _ _ _ _ _ _ _ _ _ [(d, o_Dig (.int (2 : Int32)) (.int en) (.long sig) (.long pl) (.int ne) (.int ed) (.long ex) (.ref u) (.ref h') (.int 0) (.int 0)), (u, o_SB (.ref b) (.int 0) (.int (Int32.ofNat k))), (b, oBs bs), (h', o_SB (hv) (.int 0) (.int 0))] 0 0 (mkF m 27 #[.val (.ref d), .val (.int c'), .val (.int (own_dig c')), .val (.int (0 : Int32)), .unset] [.int (2 : Int32)])
        refine Goes.tsw X (o := 105) (pc' := 132) (len := 49) (dflt := 217) (low := 0) (high := 8) (offs := #[49, 82, 105, 105, 137, 150, 172, 203, 203]) (by decide) (by decide) ?_
        show Goes _ _ _ _ _ _ _ _ _ _ _ _ _ _ _ _ _ _ _ _ [(d, o_Dig (.int (2 : Int32)) (.int en) (.long sig) (.long pl) (.int ne) (.int ed) (.long ex) (.ref u) (.ref h') (.int 0) (.int 0)), (u, o_SB (.ref b) (.int 0) (.int (Int32.ofNat k))), (b, oBs bs), (h', o_SB (hv) (.int 0) (.int 0))] 0 0 (mkF m 132 #[.val (.ref d), .val (.int c'), .val (.int (own_dig c')), .val (.int (0 : Int32)), .unset] [])
        refine Goes.runS X [(.iload_n 2, 1)] (S' := [.int (own_dig c')]) (pc' := 133) rfl ?_
        refine Goes.if1 X (pc' := 140) (o := 7) (cd := .eq) (fun q95 => ?_) (fun q95 => ?_)
        · have h96 : (own_dig c') = 0 := by simpa [ifCond.holds] using q95
          refine Goes.runS X [(.iload_n 1, 1), (.bipush 46, 2)] (S' := [.int (46 : Int32), .int c']) (pc' := 143) rfl ?_
          refine Goes.if2 X (pc' := 150) (o := 7) (cd := .ne) (fun q97 => ?_) (fun q97 => ?_)
          · have h98 : ¬ c' = (46 : Int32) := by simpa [if_icmp.holds] using q97
            refine Goes.runS X [(.iload_n 3, 1)] (S' := [.int (0 : Int32)]) (pc' := 151) rfl ?_
            refine Goes.if1 X (pc' := 159) (o := 8) (cd := .eq) (fun _ => ?_) (fun q => absurd q (by decide))
            refine Goes.runS X [(.bipush 9, 2)] (S' := [.int (9 : Int32)]) (pc' := 161) rfl ?_
            refine Goes.goto X (o := 85) (pc' := 246) ?_
            exact S _ _ _ (by clear hw hCS E M S X; simp_all [own_next, own_d0])
          · have h99 : c' = (46 : Int32) := by simpa [if_icmp.holds] using q97
            refine Goes.runS X [(.iconst 4, 1)] (S' := [.int (4 : Int32)]) (pc' := 147) rfl ?_
            refine Goes.goto X (o := 99) (pc' := 246) ?_
            exact S _ _ _ (by clear hw hCS E M S X; simp_all [own_next, own_d0])
        · have h100 : ¬ (own_dig c') = 0 := by simpa [ifCond.holds] using q95
          refine Goes.runS X [(.iconst 3, 1)] (S' := [.int (3 : Int32)]) (pc' := 137) rfl ?_
          refine Goes.goto X (o := 109) (pc' := 246) ?_
          exact S _ _ _ (by clear hw hCS E M S X; simp_all [own_next, own_d0])
      · show Goes _ _ _ _ _ _ _ _ _ _ _ _ _ _ _ _ _ _ _ _ [(d, o_Dig (.int (3 : Int32)) (.int en) (.long sig) (.long pl) (.int ne) (.int ed) (.long ex) (.ref u) (.ref h') (.int 0) (.int 0)), (u, o_SB (.ref b) (.int 0) (.int (Int32.ofNat k))), (b, oBs bs), (h', o_SB (hv) (.int 0) (.int 0))] 0 0 (mkF m 27 #[.val (.ref d), .val (.int c'), .val (.int (own_dig c')), .val (.int (0 : Int32)), .unset] [.int (3 : Int32)])
        refine Goes.tsw X (o := 105) (pc' := 132) (len := 49) (dflt := 217) (low := 0) (high := 8) (offs := #[49, 82, 105, 105, 137, 150, 172, 203, 203]) (by decide) (by decide) ?_
        show Goes _ _ _ _ _ _ _ _ _ _ _ _ _ _ _ _ _ _ _ _ [(d, o_Dig (.int (3 : Int32)) (.int en) (.long sig) (.long pl) (.int ne) (.int ed) (.long ex) (.ref u) (.ref h') (.int 0) (.int 0)), (u, o_SB (.ref b) (.int 0) (.int (Int32.ofNat k))), (b, oBs bs), (h', o_SB (hv) (.int 0) (.int 0))] 0 0 (mkF m 132 #[.val (.ref d), .val (.int c'), .val (.int (own_dig c')), .val (.int (0 : Int32)), .unset] [])
        refine Goes.runS X [(.iload_n 2, 1)] (S' := [.int (own_dig c')]) (pc' := 133) rfl ?_
        refine Goes.if1 X (pc' := 140) (o := 7) (cd := .eq) (fun q101 => ?_) (fun q101 => ?_)
        · have h102 : (own_dig c') = 0 := by simpa [ifCond.holds] using q101
          refine Goes.runS X [(.iload_n 1, 1), (.bipush 46, 2)] (S' := [.int (46 : Int32), .int c']) (pc' := 143) rfl ?_
          refine Goes.if2 X (pc' := 150) (o := 7) (cd := .ne) (fun q103 => ?_) (fun q103 => ?_)
          · have h104 : ¬ c' = (46 : Int32) := by simpa [if_icmp.holds] using q103
            refine Goes.runS X [(.iload_n 3, 1)] (S' := [.int (0 : Int32)]) (pc' := 151) rfl ?_
            refine Goes.if1 X (pc' := 159) (o := 8) (cd := .eq) (fun _ => ?_) (fun q => absurd q (by decide))
            refine Goes.runS X [(.bipush 9, 2)] (S' := [.int (9 : Int32)]) (pc' := 161) rfl ?_
            refine Goes.goto X (o := 85) (pc' := 246) ?_
            exact S _ _ _ (by clear hw hCS E M S X; simp_all [own_next, own_d0])
          · have h105 : c' = (46 : Int32) := by simpa [if_icmp.holds] using q103
            refine Goes.runS X [(.iconst 4, 1)] (S' := [.int (4 : Int32)]) (pc' := 147) rfl ?_
            refine Goes.goto X (o := 99) (pc' := 246) ?_
            exact S _ _ _ (by clear hw hCS E M S X; simp_all [own_next, own_d0])
        · have h106 : ¬ (own_dig c') = 0 := by simpa [ifCond.holds] using q101
          refine Goes.runS X [(.iconst 3, 1)] (S' := [.int (3 : Int32)]) (pc' := 137) rfl ?_
          refine Goes.goto X (o := 109) (pc' := 246) ?_
          exact S _ _ _ (by clear hw hCS E M S X; simp_all [own_next, own_d0])
      · show Goes _ _ _ _ _ _ _ _ _ _ _ _ _ _ _ _ _ _ _ _ [(d, o_Dig (.int (4 : Int32)) (.int en) (.long sig) (.long pl) (.int ne) (.int ed) (.long ex) (.ref u) (.ref h') (.int 0) (.int 0)), (u, o_SB (.ref b) (.int 0) (.int (Int32.ofNat k))), (b, oBs bs), (h', o_SB (hv) (.int 0) (.int 0))] 0 0 (mkF m 27 #[.val (.ref d), .val (.int c'), .val (.int (own_dig c')), .val (.int (0 : Int32)), .unset] [.int (4 : Int32)])
        refine Goes.tsw X (o := 137) (pc' := 164) (len := 49) (dflt := 217) (low := 0) (high := 8) (offs := #[49, 82, 105, 105, 137, 150, 172, 203, 203]) (by decide) (by decide) ?_
        show Goes _ _ _ _ _ _ _ _ _ _ _ _ _ _ _ _ _ _ _ _ [(d, o_Dig (.int (4 : Int32)) (.int en) (.long sig) (.long pl) (.int ne) (.int ed) (.long ex) (.ref u) (.ref h') (.int 0) (.int 0)), (u, o_SB (.ref b) (.int 0) (.int (Int32.ofNat k))), (b, oBs bs), (h', o_SB (hv) (.int 0) (.int 0))] 0 0 (mkF m 164 #[.val (.ref d), .val (.int c'), .val (.int (own_dig c')), .val (.int (0 : Int32)), .unset] [])
        refine Goes.runS X [(.iload_n 2, 1)] (S' := [.int (own_dig c')]) (pc' := 165) rfl ?_
        refine Goes.if1 X (pc' := 172) (o := 7) (cd := .eq) (fun q107 => ?_) (fun q107 => ?_)
        · have h108 : (own_dig c') = 0 := by simpa [ifCond.holds] using q107
          refine Goes.runS X [(.bipush 9, 2)] (S' := [.int (9 : Int32)]) (pc' := 174) rfl ?_
          refine Goes.goto X (o := 72) (pc' := 246) ?_
          exact S _ _ _ (by clear hw hCS E M S X; simp_all [own_next, own_d0])
        · have h109 : ¬ (own_dig c') = 0 := by simpa [ifCond.holds] using q107
          refine Goes.runS X [(.iconst 5, 1)] (S' := [.int (5 : Int32)]) (pc' := 169) rfl ?_
          refine Goes.goto X (o := 77) (pc' := 246) ?_
          exact S _ _ _ (by clear hw hCS E M S X; simp_all [own_next, own_d0])
      · show Goes _ _ _ _ _ _ _ _ _ _ _ _ _ _ _ _ _ _ _ _ [(d, o_Dig (.int (5 : Int32)) (.int en) (.long sig) (.long pl) (.int ne) (.int ed) (.long ex) (.ref u) (.ref h') (.int 0) (.int 0)), (u, o_SB (.ref b) (.int 0) (.int (Int32.ofNat k))), (b, oBs bs), (h', o_SB (hv) (.int 0) (.int 0))] 0 0 (mkF m 27 #[.val (.ref d), .val (.int c'), .val (.int (own_dig c')), .val (.int (0 : Int32)), .unset] [.int (5 : Int32)])
        refine Goes.tsw X (o := 150) (pc' := 177) (len := 49) (dflt := 217) (low := 0) (high := 8) (offs := #[49, 82, 105, 105, 137, 150, 172, 203, 203]) (by decide) (by decide) ?_
        show Goes _ _ _ _ _ _ _ _ _ _ _ _ _ _ _ _ _ _ _ _ [(d, o_Dig (.int (5 : Int32)) (.int en) (.long sig) (.long pl) (.int ne) (.int ed) (.long ex) (.ref u) (.ref h') (.int 0) (.int 0)), (u, o_SB (.ref b) (.int 0) (.int (Int32.ofNat k))), (b, oBs bs), (h', o_SB (hv) (.int 0) (.int 0))] 0 0 (mkF m 177 #[.val (.ref d), .val (.int c'), .val (.int (own_dig c')), .val (.int (0 : Int32)), .unset] [])
        refine Goes.runS X [(.iload_n 2, 1)] (S' := [.int (own_dig c')]) (pc' := 178) rfl ?_
        refine Goes.if1 X (pc' := 185) (o := 7) (cd := .eq) (fun q110 => ?_) (fun q110 => ?_)
        · have h111 : (own_dig c') = 0 := by simpa [ifCond.holds] using q110
          refine Goes.runS X [(.iload_n 3, 1)] (S' := [.int (0 : Int32)]) (pc' := 186) rfl ?_
          refine Goes.if1 X (pc' := 194) (o := 8) (cd := .eq) (fun _ => ?_) (fun q => absurd q (by decide))
          refine Goes.runS X [(.bipush 9, 2)] (S' := [.int (9 : Int32)]) (pc' := 196) rfl ?_
          refine Goes.goto X (o := 50) (pc' := 246) ?_
          exact S _ _ _ (by clear hw hCS E M S X; simp_all [own_next, own_d0])
        · have h112 : ¬ (own_dig c') = 0 := by simpa [ifCond.holds] using q110
          refine Goes.runS X [(.iconst 5, 1)] (S' := [.int (5 : Int32)]) (pc' := 182) rfl ?_
          refine Goes.goto X (o := 64) (pc' := 246) ?_
          exact S _ _ _ (by clear hw hCS E M S X; simp_all [own_next, own_d0])
      · show Goes _ _ _ _ _ _ _ _ _ _ _ _ _ _ _ _ _ _ _ _ [(d, o_Dig (.int (6 : Int32)) (.int en) (.long sig) (.long pl) (.int ne) (.int ed) (.long ex) (.ref u) (.ref h') (.int 0) (.int 0)), (u, o_SB (.ref b) (.int 0) (.int (Int32.ofNat k))), (b, oBs bs), (h', o_SB (hv) (.int 0) (.int 0))] 0 0 (mkF m 27 #[.val (.ref d), .val (.int c'), .val (.int (own_dig c')), .val (.int (0 : Int32)), .unset] [.int (6 : Int32)])
        refine Goes.tsw X (o := 172) (pc' := 199) (len := 49) (dflt := 217) (low := 0) (high := 8) (offs := #[49, 82, 105, 105, 137, 150, 172, 203, 203]) (by decide) (by decide) ?_
        show Goes _ _ _ _ _ _ _ _ _ _ _ _ _ _ _ _ _ _ _ _ [(d, o_Dig (.int (6 : Int32)) (.int en) (.long sig) (.long pl) (.int ne) (.int ed) (.long ex) (.ref u) (.ref h') (.int 0) (.int 0)), (u, o_SB (.ref b) (.int 0) (.int (Int32.ofNat k))), (b, oBs bs), (h', o_SB (hv) (.int 0) (.int 0))] 0 0 (mkF m 199 #[.val (.ref d), .val (.int c'), .val (.int (own_dig c')), .val (.int (0 : Int32)), .unset] [])
        refine Goes.runS X [(.iload_n 1, 1), (.bipush 45, 2)] (S' := [.int (45 : Int32), .int c']) (pc' := 202) rfl ?_
        refine Goes.if2 X (pc' := 211) (o := 9) (cd := .eq) (fun q113 => ?_) (fun q113 => ?_)
        · have h114 : c' = (45 : Int32) := by simpa [if_icmp.holds] using q113
          refine Goes.runS X [(.bipush 7, 2)] (S' := [.int (7 : Int32)]) (pc' := 213) rfl ?_
          refine Goes.goto X (o := 33) (pc' := 246) ?_
          exact S _ _ _ (by clear hw hCS E M S X; simp_all [own_next, own_d0])
        · have h115 : ¬ c' = (45 : Int32) := by simpa [if_icmp.holds] using q113
          refine Goes.runS X [(.iload_n 1, 1), (.bipush 43, 2)] (S' := [.int (43 : Int32), .int c']) (pc' := 208) rfl ?_
          refine Goes.if2 X (pc' := 216) (o := 8) (cd := .ne) (fun q116 => ?_) (fun q116 => ?_)
          · have h117 : ¬ c' = (43 : Int32) := by simpa [if_icmp.holds] using q116
            refine Goes.runS X [(.iload_n 2, 1)] (S' := [.int (own_dig c')]) (pc' := 217) rfl ?_
            refine Goes.if1 X (pc' := 225) (o := 8) (cd := .eq) (fun q118 => ?_) (fun q118 => ?_)
            · have h119 : (own_dig c') = 0 := by simpa [ifCond.holds] using q118
              refine Goes.runS X [(.bipush 9, 2)] (S' := [.int (9 : Int32)]) (pc' := 227) rfl ?_
              refine Goes.goto X (o := 19) (pc' := 246) ?_
              exact S _ _ _ (by clear hw hCS E M S X; simp_all [own_next, own_d0])
            · have h120 : ¬ (own_dig c') = 0 := by simpa [ifCond.holds] using q118
              refine Goes.runS X [(.bipush 8, 2)] (S' := [.int (8 : Int32)]) (pc' := 222) rfl ?_
              refine Goes.goto X (o := 24) (pc' := 246) ?_
              exact S _ _ _ (by clear hw hCS E M S X; simp_all [own_next, own_d0])
          · have h121 : c' = (43 : Int32) := by simpa [if_icmp.holds] using q116
            refine Goes.runS X [(.bipush 7, 2)] (S' := [.int (7 : Int32)]) (pc' := 213) rfl ?_
            refine Goes.goto X (o := 33) (pc' := 246) ?_
            exact S _ _ _ (by clear hw hCS E M S X; simp_all [own_next, own_d0])
      · show Goes _ _ _ _ _ _ _ _ _ _ _ _ _ _ _ _ _ _ _ _ [(d, o_Dig (.int (7 : Int32)) (.int en) (.long sig) (.long pl) (.int ne) (.int ed) (.long ex) (.ref u) (.ref h') (.int 0) (.int 0)), (u, o_SB (.ref b) (.int 0) (.int (Int32.ofNat k))), (b, oBs bs), (h', o_SB (hv) (.int 0) (.int 0))] 0 0 (mkF m 27 #[.val (.ref d), .val (.int c'), .val (.int (own_dig c')), .val (.int (0 : Int32)), .unset] [.int (7 : Int32)])
        refine Goes.tsw X (o := 203) (pc' := 230) (len := 49) (dflt := 217) (low := 0) (high := 8) (offs := #[49, 82, 105, 105, 137, 150, 172, 203, 203]) (by decide) (by decide) ?_
        show Goes _ _ _ _ _ _ _ _ _ _ _ _ _ _ _ _ _ _ _ _ [(d, o_Dig (.int (7 : Int32)) (.int en) (.long sig) (.long pl) (.int ne) (.int ed) (.long ex) (.ref u) (.ref h') (.int 0) (.int 0)), (u, o_SB (.ref b) (.int 0) (.int (Int32.ofNat k))), (b, oBs bs), (h', o_SB (hv) (.int 0) (.int 0))] 0 0 (mkF m 230 #[.val (.ref d), .val (.int c'), .val (.int (own_dig c')), .val (.int (0 : Int32)), .unset] [])
        refine Goes.runS X [(.iload_n 2, 1)] (S' := [.int (own_dig c')]) (pc' := 231) rfl ?_
        refine Goes.if1 X (pc' := 239) (o := 8) (cd := .eq) (fun q122 => ?_) (fun q122 => ?_)
        · have h123 : (own_dig c') = 0 := by simpa [ifCond.holds] using q122
          refine Goes.runS X [(.bipush 9, 2)] (S' := [.int (9 : Int32)]) (pc' := 241) rfl ?_
          refine Goes.goto X (o := 5) (pc' := 246) ?_
          exact S _ _ _ (by clear hw hCS E M S X; simp_all [own_next, own_d0])
        · have h124 : ¬ (own_dig c') = 0 := by simpa [ifCond.holds] using q122
          refine Goes.runS X [(.bipush 8, 2)] (S' := [.int (8 : Int32)]) (pc' := 236) rfl ?_
          refine Goes.goto X (o := 10) (pc' := 246) ?_
          exact S _ _ _ (by clear hw hCS E M S X; simp_all [own_next, own_d0])
      · show Goes _ _ _ _ _ _ _ _ _ _ _ _ _ _ _ _ _ _ _ _ [(d, o_Dig (.int (8 : Int32)) (.int en) (.long sig) (.long pl) (.int ne) (.int ed) (.long ex) (.ref u) (.ref h') (.int 0) (.int 0)), (u, o_SB (.ref b) (.int 0) (.int (Int32.ofNat k))), (b, oBs bs), (h', o_SB (hv) (.int 0) (.int 0))] 0 0 (mkF m 27 #[.val (.ref d), .val (.int c'), .val (.int (own_dig c')), .val (.int (0 : Int32)), .unset] [.int (8 : Int32)])
        refine Goes.tsw X (o := 203) (pc' := 230) (len := 49) (dflt := 217) (low := 0) (high := 8) (offs := #[49, 82, 105, 105, 137, 150, 172, 203, 203]) (by decide) (by decide) ?_
        show Goes _ _ _ _ _ _ _ _ _ _ _ _ _ _ _ _ _ _ _ _ [(d, o_Dig (.int (8 : Int32)) (.int en) (.long sig) (.long pl) (.int ne) (.int ed) (.long ex) (.ref u) (.ref h') (.int 0) (.int 0)), (u, o_SB (.ref b) (.int 0) (.int (Int32.ofNat k))), (b, oBs bs), (h', o_SB (hv) (.int 0) (.int 0))] 0 0 (mkF m 230 #[.val (.ref d), .val (.int c'), .val (.int (own_dig c')), .val (.int (0 : Int32)), .unset] [])
        refine Goes.runS X [(.iload_n 2, 1)] (S' := [.int (own_dig c')]) (pc' := 231) rfl ?_
        refine Goes.if1 X (pc' := 239) (o := 8) (cd := .eq) (fun q125 => ?_) (fun q125 => ?_)
        · have h126 : (own_dig c') = 0 := by simpa [ifCond.holds] using q125
          refine Goes.runS X [(.bipush 9, 2)] (S' := [.int (9 : Int32)]) (pc' := 241) rfl ?_
          refine Goes.goto X (o := 5) (pc' := 246) ?_
          exact S _ _ _ (by clear hw hCS E M S X; simp_all [own_next, own_d0])
        · have h127 : ¬ (own_dig c') = 0 := by simpa [ifCond.holds] using q125
          refine Goes.runS X [(.bipush 8, 2)] (S' := [.int (8 : Int32)]) (pc' := 236) rfl ?_
          refine Goes.goto X (o := 10) (pc' := 246) ?_
          exact S _ _ _ (by clear hw hCS E M S X; simp_all [own_next, own_d0])
    · have h128 : c' = 69 := by simpa [if_icmp.holds] using q78
      refine Goes.runS X [(.iconst 1, 1)] (S' := [.int (1 : Int32)]) (pc' := 18) rfl ?_
      refine Goes.goto X (o := 4) (pc' := 22) ?_
      refine Goes.run X [(.istore_n 3, 1), (.aload_n 0, 1)] (L' := #[.val (.ref d), .val (.int c'), .val (.int (own_dig c')), .val (.int (1 : Int32)), .unset]) (S' := [.ref d]) (pc' := 24) rfl ?_
      refine Goes.getF X 0 0 rfl rfl (wd hw 15 rfl) Via.refl ?_
      rcases hok with rfl | rfl | rfl | rfl | rfl | rfl | rfl | rfl | rfl
      · show Goes _ _ _ _ _ _ _ _ _ _ _ _ _ _ _ _ _ _ _ _ [(d, o_Dig (.int (0 : Int32)) (.int en) (.long sig) (.long pl) (.int ne) (.int ed) (.long ex) (.ref u) (.ref h') (.int 0) (.int 0)), (u, o_SB (.ref b) (.int 0) (.int (Int32.ofNat k))), (b, oBs bs), (h', o_SB (hv) (.int 0) (.int 0))] 0 0 (mkF m 27 #[.val (.ref d), .val (.int c'), .val (.int (own_dig c')), .val (.int (1 : Int32)), .unset] [.int (0 : Int32)])
        refine Goes.tsw X (o := 49) (pc' := 76) (len := 49) (dflt := 217) (low := 0) (high := 8) (offs := #[49, 82, 105, 105, 137, 150, 172, 203, 203]) (by decide) (by decide) ?_
        show Goes _ _ _ _ _ _ _ _ _ _ _ _ _ _ _ _ _ _ _ _ [(d, o_Dig (.int (0 : Int32)) (.int en) (.long sig) (.long pl) (.int ne) (.int ed) (.long ex) (.ref u) (.ref h') (.int 0) (.int 0)), (u, o_SB (.ref b) (.int 0) (.int (Int32.ofNat k))), (b, oBs bs), (h', o_SB (hv) (.int 0) (.int 0))] 0 0 (mkF m 76 #[.val (.ref d), .val (.int c'), .val (.int (own_dig c')), .val (.int (1 : Int32)), .unset] [])
        refine Goes.runS X [(.iload_n 1, 1), (.bipush 45, 2)] (S' := [.int (45 : Int32), .int c']) (pc' := 79) rfl ?_
        refine Goes.if2 X (pc' := 86) (o := 7) (cd := .ne) (fun q129 => ?_) (fun q129 => ?_)
        · have h130 : ¬ c' = (45 : Int32) := by simpa [if_icmp.holds] using q129
          refine Goes.runS X [(.iload_n 1, 1), (.bipush 48, 2)] (S' := [.int (48 : Int32), .int c']) (pc' := 89) rfl ?_
          refine Goes.if2 X (pc' := 96) (o := 7) (cd := .ne) (fun q131 => ?_) (fun q131 => ?_)
          · have h132 : ¬ c' = (48 : Int32) := by simpa [if_icmp.holds] using q131
            refine Goes.runS X [(.iload_n 2, 1)] (S' := [.int (own_dig c')]) (pc' := 97) rfl ?_
            refine Goes.if1 X (pc' := 104) (o := 7) (cd := .eq) (fun q133 => ?_) (fun q133 => ?_)
            · have h134 : (own_dig c') = 0 := by simpa [ifCond.holds] using q133
              refine Goes.runS X [(.bipush 9, 2)] (S' := [.int (9 : Int32)]) (pc' := 106) rfl ?_
              refine Goes.goto X (o := 140) (pc' := 246) ?_
              exact S _ _ _ (by clear hw hCS E M S X; simp_all [own_next, own_d0])
            · have h135 : ¬ (own_dig c') = 0 := by simpa [ifCond.holds] using q133
              refine Goes.runS X [(.iconst 3, 1)] (S' := [.int (3 : Int32)]) (pc' := 101) rfl ?_
              refine Goes.goto X (o := 145) (pc' := 246) ?_
              exact S _ _ _ (by clear hw hCS E M S X; simp_all [own_next, own_d0])
          · have h136 : c' = (48 : Int32) := by simpa [if_icmp.holds] using q131
            refine Goes.runS X [(.iconst 2, 1)] (S' := [.int (2 : Int32)]) (pc' := 93) rfl ?_
            refine Goes.goto X (o := 153) (pc' := 246) ?_
            exact S _ _ _ (by clear hw hCS E M S X; simp_all [own_next, own_d0])
        · have h137 : c' = (45 : Int32) := by simpa [if_icmp.holds] using q129
          refine Goes.runS X [(.iconst 1, 1)] (S' := [.int (1 : Int32)]) (pc' := 83) rfl ?_
          refine Goes.goto X (o := 163) (pc' := 246) ?_
          exact S _ _ _ (by clear hw hCS E M S X; simp_all [own_next, own_d0])
      · show Goes _ _ _ _ _ _ _ _ _ _ _ _ _ _ _ _ _ _ _ _ [(d, o_Dig (.int (1 : Int32)) (.int en) (.long sig) (.long pl) (.int ne) (.int ed) (.long ex) (.ref u) (.ref h') (.int 0) (.int 0)), (u, o_SB (.ref b) (.int 0) (.int (Int32.ofNat k))), (b, oBs bs), (h', o_SB (hv) (.int 0) (.int 0))] 0 0 (mkF m 27 #[.val (.ref d), .val (.int c'), .val (.int (own_dig c')), .val (.int (1 : Int32)), .unset] [.int (1 : Int32)])
        refine Goes.tsw X (o := 82) (pc' := 109) (len := 49) (dflt := 217) (low := 0) (high := 8) (offs := #[49, 82, 105, 105, 137, 150, 172, 203, 203]) (by decide) (by decide) ?_
        show Goes _ _ _ _ _ _ _ _ _ _ _ _ _ _ _ _ _ _ _ _ [(d, o_Dig (.int (1 : Int32)) (.int en) (.long sig) (.long pl) (.int ne) (.int ed) (.long ex) (.ref u) (.ref h') (.int 0) (.int 0)), (u, o_SB (.ref b) (.int 0) (.int (Int32.ofNat k))), (b, oBs bs), (h', o_SB (hv) (.int 0) (.int 0))] 0 0 (mkF m 109 #[.val (.ref d), .val (.int c'), .val (.int (own_dig c')), .val (.int (1 : Int32)), .unset] [])
        refine Goes.runS X [(.iload_n 1, 1), (.bipush 48, 2)] (S' := [.int (48 : Int32), .int c']) (pc' := 112) rfl ?_
        refine Goes.if2 X (pc' := 119) (o := 7) (cd := .ne) (fun q138 => ?_) (fun q138 => ?_)
        · have h139 : ¬ c' = (48 : Int32) := by simpa [if_icmp.holds] using q138
          refine Goes.runS X [(.iload_n 2, 1)] (S' := [.int (own_dig c')]) (pc' := 120) rfl ?_
          refine Goes.if1 X (pc' := 127) (o := 7) (cd := .eq) (fun q140 => ?_) (fun q140 => ?_)
          · have h141 : (own_dig c') = 0 := by simpa [ifCond.holds] using q140
            refine Goes.runS X [(.bipush 9, 2)] (S' := [.int (9 : Int32)]) (pc' := 129) rfl ?_
            refine Goes.goto X (o := 117) (pc' := 246) ?_
            exact S _ _ _ (by clear hw hCS E M S X; simp_all [own_next, own_d0])
          · have h142 : ¬ (own_dig c') = 0 := by simpa [ifCond.holds] using q140
            refine Goes.runS X [(.iconst 3, 1)] (S' := [.int (3 : Int32)]) (pc' := 124) rfl ?_
            refine Goes.goto X (o := 122) (pc' := 246) ?_
            exact S _ _ _ (by clear hw hCS E M S X; simp_all [own_next, own_d0])
        · have h143 : c' = (48 : Int32) := by simpa [if_icmp.holds] using q138
          refine Goes.runS X [(.iconst 2, 1)] (S' := [.int (2 : Int32)]) (pc' := 116) rfl ?_
          refine Goes.goto X (o := 130) (pc' := 246) ?_
          exact S _ _ _ (by clear hw hCS E M S X; simp_all [own_next, own_d0])
      · show Goes _ _ _ _ _ _ _ _ _ _ _ _ _ _ _ _ _ _ _ _ [(d, o_Dig (.int (2 : Int32)) (.int en) (.long sig) (.long pl) (.int ne) (.int ed) (.long ex) (.ref u) (.ref h') (.int 0) (.int 0)), (u, o_SB (.ref b) (.int 0) (.int (Int32.ofNat k))), (b, oBs bs), (h', o_SB (hv) (.int 0) (.int 0))] 0 0 (mkF m 27 #[.val (.ref d), .val (.int c'), .val (.int (own_dig c')), .val (.int (1 : Int32)), .unset] [.int (2 : Int32)])
        refine Goes.tsw X (o := 105) (pc' := 132) (len := 49) (dflt := 217) (low := 0) (high := 8) (offs := #[49, 82, 105, 105, 137, 150, 172, 203, 203]) (by decide) (by decide) ?_
        show Goes _ _ _ _ _ _ _ _ _ _ _ _ _ _ _ _ _ _ _ _ [(d, o_Dig (.int (2 : Int32)) (.int en) (.long sig) (.long pl) (.int ne) (.int ed) (.long ex) (.ref u) (.ref h') (.int 0) (.int 0)), (u, o_SB (.ref b) (.int 0) (.int (Int32.ofNat k))), (b, oBs bs), (h', o_SB (hv) (.int 0) (.int 0))] 0 0 (mkF m 132 #[.val (.ref d), .val (.int c'), .val (.int (own_dig c')), .val (.int (1 : Int32)), .unset] [])
        refine Goes.runS X [(.iload_n 2, 1)] (S' := [.int (own_dig c')]) (pc' := 133) rfl ?_
        refine Goes.if1 X (pc' := 140) (o := 7) (cd := .eq) (fun q144 => ?_) (fun q144 => ?_)
        · have h145 : (own_dig c') = 0 := by simpa [ifCond.holds] using q144
          refine Goes.runS X [(.iload_n 1, 1), (.bipush 46, 2)] (S' := [.int (46 : Int32), .int c']) (pc' := 143) rfl ?_
          refine Goes.if2 X (pc' := 150) (o := 7) (cd := .ne) (fun q146 => ?_) (fun q146 => ?_)
          · have h147 : ¬ c' = (46 : Int32) := by simpa [if_icmp.holds] using q146
            refine Goes.runS X [(.iload_n 3, 1)] (S' := [.int (1 : Int32)]) (pc' := 151) rfl ?_
            refine Goes.if1 X (pc' := 159) (o := 8) (cd := .eq) (fun q => absurd q (by decide)) (fun _ => ?_)
            refine Goes.runS X [(.bipush 6, 2)] (S' := [.int (6 : Int32)]) (pc' := 156) rfl ?_
            refine Goes.goto X (o := 90) (pc' := 246) ?_
            exact S _ _ _ (by clear hw hCS E M S X; simp_all [own_next, own_d0])
          · have h148 : c' = (46 : Int32) := by simpa [if_icmp.holds] using q146
            refine Goes.runS X [(.iconst 4, 1)] (S' := [.int (4 : Int32)]) (pc' := 147) rfl ?_
            refine Goes.goto X (o := 99) (pc' := 246) ?_
            exact S _ _ _ (by clear hw hCS E M S X; simp_all [own_next, own_d0])
        · have h149 : ¬ (own_dig c') = 0 := by simpa [ifCond.holds] using q144
          refine Goes.runS X [(.iconst 3, 1)] (S' := [.int (3 : Int32)]) (pc' := 137) rfl ?_
          refine Goes.goto X (o := 109) (pc' := 246) ?_
          exact S _ _ _ (by clear hw hCS E M S X; simp_all [own_next, own_d0])
      · show Goes _ _ _ _ _ _ _ _ _ _ _ _ _ _ _ _ _ _ _ _ [(d, o_Dig (.int (3 : Int32)) (.int en) (.long sig) (.long pl) (.int ne) (.int ed) (.long ex) (.ref u) (.ref h') (.int 0) (.int 0)), (u, o_SB (.ref b) (.int 0) (.int (Int32.ofNat k))), (b, oBs bs), (h', o_SB (hv) (.int 0) (.int 0))] 0 0 (mkF m 27 #[.val (.ref d), .val (.int c'), .val (.int (own_dig c')), .val (.int (1 : Int32)), .unset] [.int (3 : Int32)])
        refine Goes.tsw X (o := 105) (pc' := 132) (len := 49) (dflt := 217) (low := 0) (high := 8) (offs := #[49, 82, 105, 105, 137, 150, 172, 203, 203]) (by decide) (by decide) ?_
        show Goes _ _ _ _ _ _ _ _ _ _ _ _ _ _ _ _ _ _ _ _ [(d, o_Dig (.int (3 : Int32)) (.int en) (.long sig) (.long pl) (.int ne) (.int ed) (.long ex) (.ref u) (.ref h') (.int 0) (.int 0)), (u, o_SB (.ref b) (.int 0) (.int (Int32.ofNat k))), (b, oBs bs), (h', o_SB (hv) (.int 0) (.int 0))] 0 0 (mkF m 132 #[.val (.ref d), .val (.int c'), .val (.int (own_dig c')), .val (.int (1 : Int32)), .unset] [])
        refine Goes.runS X [(.iload_n 2, 1)] (S' := [.int (own_dig c')]) (pc' := 133) rfl ?_
        refine Goes.if1 X (pc' := 140) (o := 7) (cd := .eq) (fun q150 => ?_) (fun q150 => ?_)
        · have h151 : (own_dig c') = 0 := by simpa [ifCond.holds] using q150
          refine Goes.runS X [(.iload_n 1, 1), (.bipush 46, 2)] (S' := [.int (46 : Int32), .int c']) (pc' := 143) rfl ?_
          refine Goes.if2 X (pc' := 150) (o := 7) (cd := .ne) (fun q152 => ?_) (fun q152 => ?_)
          · have h153 : ¬ c' = (46 : Int32) := by simpa [if_icmp.holds] using q152
            refine Goes.runS X [(.iload_n 3, 1)] (S' := [.int (1 : Int32)]) (pc' := 151) rfl ?_
            refine Goes.if1 X (pc' := 159) (o := 8) (cd := .eq) (fun q => absurd q (by decide)) (fun _ => ?_)
            refine Goes.runS X [(.bipush 6, 2)] (S' := [.int (6 : Int32)]) (pc' := 156) rfl ?_
            refine Goes.goto X (o := 90) (pc' := 246) ?_
            exact S _ _ _ (by clear hw hCS E M S X; simp_all [own_next, own_d0])
          · have h154 : c' = (46 : Int32) := by simpa [if_icmp.holds] using q152
            refine Goes.runS X [(.iconst 4, 1)] (S' := [.int (4 : Int32)]) (pc' := 147) rfl ?_
            refine Goes.goto X (o := 99) (pc' := 246) ?_
            exact S _ _ _ (by clear hw hCS E M S X; simp_all [own_next, own_d0])
        · have h155 : ¬ (own_dig c') = 0 := by simpa [ifCond.holds] using q150
          refine Goes.runS X [(.iconst 3, 1)] (S' := [.int (3 : Int32)]) (pc' := 137) rfl ?_
          refine Goes.goto X (o := 109) (pc' := 246) ?_
          exact S _ _ _ (by clear hw hCS E M S X; simp_all [own_next, own_d0])
      · show Goes _ _ _ _ _ _ _ _ _ _ _ _ _ _ _ _ _ _ _ _ [(d, o_Dig (.int (4 : Int32)) (.int en) (.long sig) (.long pl) (.int ne) (.int ed) (.long ex) (.ref u) (.ref h') (.int 0) (.int 0)), (u, o_SB (.ref b) (.int 0) (.int (Int32.ofNat k))), (b, oBs bs), (h', o_SB (hv) (.int 0) (.int 0))] 0 0 (mkF m 27 #[.val (.ref d), .val (.int c'), .val (.int (own_dig c')), .val (.int (1 : Int32)), .unset] [.int (4 : Int32)])
        refine Goes.tsw X (o := 137) (pc' := 164) (len := 49) (dflt := 217) (low := 0) (high := 8) (offs := #[49, 82, 105, 105, 137, 150, 172, 203, 203]) (by decide) (by decide) ?_
        show Goes _ _ _ _ _ _ _ _ _ _ _ _ _ _ _ _ _ _ _ _ [(d, o_Dig (.int (4 : Int32)) (.int en) (.long sig) (.long pl) (.int ne) (.int ed) (.long ex) (.ref u) (.ref h') (.int 0) (.int 0)), (u, o_SB (.ref b) (.int 0) (.int (Int32.ofNat k))), (b, oBs bs), (h', o_SB (hv) (.int 0) (.int 0))] 0 0 (mkF m 164 #[.val (.ref d), .val (.int c'), .val (.int (own_dig c')), .val (.int (1 : Int32)), .unset] [])
        refine Goes.runS X [(.iload_n 2, 1)] (S' := [.int (own_dig c')]) (pc' := 165) rfl ?_
        refine Goes.if1 X (pc' := 172) (o := 7) (cd := .eq) (fun q156 => ?_) (fun q156 => ?_)
        · have h157 : (own_dig c') = 0 := by simpa [ifCond.holds] using q156
          refine Goes.runS X [(.bipush 9, 2)] (S' := [.int (9 : Int32)]) (pc' := 174) rfl ?_
          refine Goes.goto X (o := 72) (pc' := 246) ?_
          exact S _ _ _ (by clear hw hCS E M S X; simp_all [own_next, own_d0])
        · have h158 : ¬ (own_dig c') = 0 := by simpa [ifCond.holds] using q156
          refine Goes.runS X [(.iconst 5, 1)] (S' := [.int (5 : Int32)]) (pc' := 169) rfl ?_
          refine Goes.goto X (o := 77) (pc' := 246) ?_
          exact S _ _ _ (by clear hw hCS E M S X; simp_all [own_next, own_d0])
      · show Goes _ _ _ _ _ _ _ _ _ _ _ _ _ _ _ _ _ _ _ _ [(d, o_Dig (.int (5 : Int32)) (.int en) (.long sig) (.long pl) (.int ne) (.int ed) (.long ex) (.ref u) (.ref h') (.int 0) (.int 0)), (u, o_SB (.ref b) (.int 0) (.int (Int32.ofNat k))), (b, oBs bs), (h', o_SB (hv) (.int 0) (.int 0))] 0 0 (mkF m 27 #[.val (.ref d), .val (.int c'), .val (.int (own_dig c')), .val (.int (1 : Int32)), .unset] [.int (5 : Int32)])
        refine Goes.tsw X (o := 150) (pc' := 177) (len := 49) (dflt := 217) (low := 0) (high := 8) (offs := #[49, 82, 105, 105, 137, 150, 172, 203, 203]) (by decide) (by decide) ?_
        show Goes _ _ _ _ _ _ _ _ _ _ _ _ _ _ _ _ _ _ _ _ [(d, o_Dig (.int (5 : Int32)) (.int en) (.long sig) (.long pl) (.int ne) (.int ed) (.long ex) (.ref u) (.ref h') (.int 0) (.int 0)), (u, o_SB (.ref b) (.int 0) (.int (Int32.ofNat k))), (b, oBs bs), (h', o_SB (hv) (.int 0) (.int 0))] 0 0 (mkF m 177 #[.val (.ref d), .val (.int c'), .val (.int (own_dig c')), .val (.int (1 : Int32)), .unset] [])
        refine Goes.runS X [(.iload_n 2, 1)] (S' := [.int (own_dig c')]) (pc' := 178) rfl ?_
        refine Goes.if1 X (pc' := 185) (o := 7) (cd := .eq) (fun q159 => ?_) (fun q159 => ?_)
        · have h160 : (own_dig c') = 0 := by simpa [ifCond.holds] using q159
          refine Goes.runS X [(.iload_n 3, 1)] (S' := [.int (1 : Int32)]) (pc' := 186) rfl ?_
          refine Goes.if1 X (pc' := 194) (o := 8) (cd := .eq) (fun q => absurd q (by decide)) (fun _ => ?_)
          refine Goes.runS X [(.bipush 6, 2)] (S' := [.int (6 : Int32)]) (pc' := 191) rfl ?_
          refine Goes.goto X (o := 55) (pc' := 246) ?_
          exact S _ _ _ (by clear hw hCS E M S X; simp_all [own_next, own_d0])
        · have h161 : ¬ (own_dig c') = 0 := by simpa [ifCond.holds] using q159
          refine Goes.runS X [(.iconst 5, 1)] (S' := [.int (5 : Int32)]) (pc' := 182) rfl ?_
          refine Goes.goto X (o := 64) (pc' := 246) ?_
          exact S _ _ _ (by clear hw hCS E M S X; simp_all [own_next, own_d0])
      · show Goes _ _ _ _ _ _ _ _ _ _ _ _ _ _ _ _ _ _ _ _ [(d, o_Dig (.int (6 : Int32)) (.int en) (.long sig) (.long pl) (.int ne) (.int ed) (.long ex) (.ref u) (.ref h') (.int 0) (.int 0)), (u, o_SB (.ref b) (.int 0) (.int (Int32.ofNat k))), (b, oBs bs), (h', o_SB (hv) (.int 0) (.int 0))] 0 0 (mkF m 27 #[.val (.ref d), .val (.int c'), .val (.int (own_dig c')), .val (.int (1 : Int32)), .unset] [.int (6 : Int32)])
        refine Goes.tsw X (o := 172) (pc' := 199) (len := 49) (dflt := 217) (low := 0) (high := 8) (offs := #[49, 82, 105, 105, 137, 150, 172, 203, 203]) (by decide) (by decide) ?_
        show Goes _ _ _ _ _ _ _ _ _ _ _ _ _ _ _ _ _ _ _ _ [(d, o_Dig (.int (6 : Int32)) (.int en) (.long sig) (.long pl) (.int ne) (.int ed) (.long ex) (.ref u) (.ref h') (.int 0) (.int 0)), (u, o_SB (.ref b) (.int 0) (.int (Int32.ofNat k))), (b, oBs bs), (h', o_SB (hv) (.int 0) (.int 0))] 0 0 (mkF m 199 #[.val (.ref d), .val (.int c'), .val (.int (own_dig c')), .val (.int (1 : Int32)), .unset] [])
        refine Goes.runS X [(.iload_n 1, 1), (.bipush 45, 2)] (S' := [.int (45 : Int32), .int c']) (pc' := 202) rfl ?_
        refine Goes.if2 X (pc' := 211) (o := 9) (cd := .eq) (fun q162 => ?_) (fun q162 => ?_)
        · have h163 : c' = (45 : Int32) := by simpa [if_icmp.holds] using q162
          refine Goes.runS X [(.bipush 7, 2)] (S' := [.int (7 : Int32)]) (pc' := 213) rfl ?_
          refine Goes.goto X (o := 33) (pc' := 246) ?_
          exact S _ _ _ (by clear hw hCS E M S X; simp_all [own_next, own_d0])
        · have h164 : ¬ c' = (45 : Int32) := by simpa [if_icmp.holds] using q162
          refine Goes.runS X [(.iload_n 1, 1), (.bipush 43, 2)] (S' := [.int (43 : Int32), .int c']) (pc' := 208) rfl ?_
          refine Goes.if2 X (pc' := 216) (o := 8) (cd := .ne) (fun q165 => ?_) (fun q165 => ?_)
          · have h166 : ¬ c' = (43 : Int32) := by simpa [if_icmp.holds] using q165
            refine Goes.runS X [(.iload_n 2, 1)] (S' := [.int (own_dig c')]) (pc' := 217) rfl ?_
            refine Goes.if1 X (pc' := 225) (o := 8) (cd := .eq) (fun q167 => ?_) (fun q167 => ?_)
            · have h168 : (own_dig c') = 0 := by simpa [ifCond.holds] using q167
              refine Goes.runS X [(.bipush 9, 2)] (S' := [.int (9 : Int32)]) (pc' := 227) rfl ?_
              refine Goes.goto X (o := 19) (pc' := 246) ?_
              exact S _ _ _ (by clear hw hCS E M S X; simp_all [own_next, own_d0])
            · have h169 : ¬ (own_dig c') = 0 := by simpa [ifCond.holds] using q167
              refine Goes.runS X [(.bipush 8, 2)] (S' := [.int (8 : Int32)]) (pc' := 222) rfl ?_
              refine Goes.goto X (o := 24) (pc' := 246) ?_
              exact S _ _ _ (by clear hw hCS E M S X; simp_all [own_next, own_d0])
          · have h170 : c' = (43 : Int32) := by simpa [if_icmp.holds] using q165
            refine Goes.runS X [(.bipush 7, 2)] (S' := [.int (7 : Int32)]) (pc' := 213) rfl ?_
            refine Goes.goto X (o := 33) (pc' := 246) ?_
            exact S _ _ _ (by clear hw hCS E M S X; simp_all [own_next, own_d0])
      · show Goes _ _ _ _ _ _ _ _ _ _ _ _ _ _ _ _ _ _ _ _ [(d, o_Dig (.int (7 : Int32)) (.int en) (.long sig) (.long pl) (.int ne) (.int ed) (.long ex) (.ref u) (.ref h') (.int 0) (.int 0)), (u, o_SB (.ref b) (.int 0) (.int (Int32.ofNat k))), (b, oBs bs), (h', o_SB (hv) (.int 0) (.int 0))] 0 0 (mkF m 27 #[.val (.ref d), .val (.int c'), .val (.int (own_dig c')), .val (.int (1 : Int32)), .unset] [.int (7 : Int32)])
        refine Goes.tsw X (o := 203) (pc' := 230) (len := 49) (dflt := 217) (low := 0) (high := 8) (offs := #[49, 82, 105, 105, 137, 150, 172, 203, 203]) (by decide) (by decide) ?_
        show Goes _ _ _ _ _ _ _ _ _ _ _ _ _ _ _ _ _ _ _ _ [(d, o_Dig (.int (7 : Int32)) (.int en) (.long sig) (.long pl) (.int ne) (.int ed) (.long ex) (.ref u) (.ref h') (.int 0) (.int 0)), (u, o_SB (.ref b) (.int 0) (.int (Int32.ofNat k))), (b, oBs bs), (h', o_SB (hv) (.int 0) (.int 0))] 0 0 (mkF m 230 #[.val (.ref d), .val (.int c'), .val (.int (own_dig c')), .val (.int (1 : Int32)), .unset] [])
        refine Goes.runS X [(.iload_n 2, 1)] (S' := [.int (own_dig c')]) (pc' := 231) rfl ?_
        refine Goes.if1 X (pc' := 239) (o := 8) (cd := .eq) (fun q171 => ?_) (fun q171 => ?_)
        · have h172 : (own_dig c') = 0 := by simpa [ifCond.holds] using q171
          refine Goes.runS X [(.bipush 9, 2)] (S' := [.int (9 : Int32)]) (pc' := 241) rfl ?_
          refine Goes.goto X (o := 5) (pc' := 246) ?_
          exact S _ _ _ (by clear hw hCS E M S X; simp_all [own_next, own_d0])
        · have h173 : ¬ (own_dig c') = 0 := by simpa [ifCond.holds] using q171
          refine Goes.runS X [(.bipush 8, 2)] (S' := [.int (8 : Int32)]) (pc' := 236) rfl ?_
          refine Goes.goto X (o := 10) (pc' := 246) ?_
          exact S _ _ _ (by clear hw hCS E M S X; simp_all [own_next, own_d0])
      · show Goes _ _ _ _ _ _ _ _ _ _ _ _ _ _ _ _ _ _ _ _ [(d, o_Dig (.int (8 : Int32)) (.int en) (.long sig) (.long pl) (.int ne) (.int ed) (.long ex) (.ref u) (.ref h') (.int 0) (.int 0)), (u, o_SB (.ref b) (.int 0) (.int (Int32.ofNat k))), (b, oBs bs), (h', o_SB (hv) (.int 0) (.int 0))] 0 0 (mkF m 27 #[.val (.ref d), .val (.int c'), .val (.int (own_dig c')), .val (.int (1 : Int32)), .unset] [.int (8 : Int32)])
        refine Goes.tsw X (o := 203) (pc' := 230) (len := 49) (dflt := 217) (low := 0) (high := 8) (offs := #[49, 82, 105, 105, 137, 150, 172, 203, 203]) (by decide) (by decide) ?_
        show Goes _ _ _ _ _ _ _ _ _ _ _ _ _ _ _ _ _ _ _ _ [(d, o_Dig (.int (8 : Int32)) (.int en) (.long sig) (.long pl) (.int ne) (.int ed) (.long ex) (.ref u) (.ref h') (.int 0) (.int 0)), (u, o_SB (.ref b) (.int 0) (.int (Int32.ofNat k))), (b, oBs bs), (h', o_SB (hv) (.int 0) (.int 0))] 0 0 (mkF m 230 #[.val (.ref d), .val (.int c'), .val (.int (own_dig c')), .val (.int (1 : Int32)), .unset] [])
        refine Goes.runS X [(.iload_n 2, 1)] (S' := [.int (own_dig c')]) (pc' := 231) rfl ?_
        refine Goes.if1 X (pc' := 239) (o := 8) (cd := .eq) (fun q174 => ?_) (fun q174 => ?_)
        · have h175 : (own_dig c') = 0 := by simpa [ifCond.holds] using q174
          refine Goes.runS X [(.bipush 9, 2)] (S' := [.int (9 : Int32)]) (pc' := 241) rfl ?_
          refine Goes.goto X (o := 5) (pc' := 246) ?_
          exact S _ _ _ (by clear hw hCS E M S X; simp_all [own_next, own_d0])
        · have h176 : ¬ (own_dig c') = 0 := by simpa [ifCond.holds] using q174
          refine Goes.runS X [(.bipush 8, 2)] (S' := [.int (8 : Int32)]) (pc' := 236) rfl ?_
          refine Goes.goto X (o := 10) (pc' := 246) ?_
          exact S _ _ _ (by clear hw hCS E M S X; simp_all [own_next, own_d0])
abbrev o_String (v0 v1 : Value) : OObj := ob "java/lang/String" [("java/lang/String", "value", "[B", v0), ("java/lang/String", "coder", "B", v1)]
theorem nd_String : (["value", "coder"] : List String).Nodup := by decide +kernel
theorem new_String {Z : State} {a0 : Array Value} (hw : ∀ d ∈ tables_1, d.before a0 Z = true) : ∀ f ∈ ([("java/lang/String", "value", "[B", .null), ("java/lang/String", "coder", "B", .int 0)] : List OFld), Laid Z a0 "java/lang/String" f.1 f.2.1 f.2.2.1 ∧ ∃ t, parseFieldDescriptor f.2.2.1 = some t ∧ f.2.2.2 = defaultValue t := List.forall_mem_cons.mpr ⟨⟨Or.inr (wd hw 80 rfl), (.array .byte), by decide +kernel, rfl⟩, List.forall_mem_cons.mpr ⟨⟨Or.inr (wd hw 81 rfl), .byte, by decide +kernel, rfl⟩, fun _ q => nomatch q⟩⟩
theorem own_i2c {z : Int32} (h0 : 0 ≤ z.toInt) (h1 : z.toInt ≤ 255) : oI2c z = z := by
  have e : z &&& 255 = z := by
    apply Int32.toBitVec_inj.mp
    apply BitVec.eq_of_toNat_eq
    change 0 ≤ z.toBitVec.toInt at h0
    change z.toBitVec.toInt ≤ 255 at h1
    rw [BitVec.toInt_eq_toNat_cond] at h0 h1
    rw [Int32.toBitVec_and, BitVec.toNat_and]
    show z.toBitVec.toNat &&& 255 = z.toBitVec.toNat
    have : z.toBitVec.toNat < 2 ^ 8 := by split at h0 <;> split at h1 <;> omega
    exact Nat.and_two_pow_sub_one_of_lt_two_pow this
  have q := i2c_mask z
  rw [e] at q
  exact q
theorem own_nch {z : Int32} (h0 : 0 ≤ z.toInt) (h1 : z.toInt ≤ 255) : narrow .char (.int z) = .int z := by
  show Value.int (oI2c z) = .int z
  rw [own_i2c h0 h1]
theorem own_nca {z : Int32} (h0 : 0 ≤ z.toInt) (h1 : z.toInt ≤ 255) : nar .char z = z := own_i2c h0 h1
theorem own_le {z : Int32} (h1 : z.toInt ≤ 255) : z ≤ 255 := Int32.le_iff_toInt_le.mpr h1
theorem own_wS {Z : State} {a0 : Array Value} (hw : ∀ d ∈ tables_1, d.before a0 Z = true) : ∀ a ∈ Bundle.stringAtoms, a.before a0 Z = true := List.forall_mem_cons.mpr ⟨wd hw 31 rfl, List.forall_mem_cons.mpr ⟨wd hw 79 rfl, List.forall_mem_cons.mpr ⟨wd hw 32 rfl, List.forall_mem_cons.mpr ⟨wd hw 80 rfl, List.forall_mem_cons.mpr ⟨wd hw 81 rfl, List.forall_mem_cons.mpr ⟨wd hw 82 rfl, List.forall_mem_cons.mpr ⟨wd hw 83 rfl, fun _ q => nomatch q⟩⟩⟩⟩⟩⟩⟩
theorem own_Lv {Z : State} {a0 : Array Value} (hw : ∀ d ∈ tables_1, d.before a0 Z = true) : Laid Z a0 "java/lang/String" "java/lang/String" "value" "[B" := Or.inr (wd hw 80 rfl)
theorem own_Lc {Z : State} {a0 : Array Value} (hw : ∀ d ∈ tables_1, d.before a0 Z = true) : Laid Z a0 "java/lang/String" "java/lang/String" "coder" "B" := Or.inr (wd hw 81 rfl)
abbrev own_EL : List (String × Nat) := [("com/example/yuanterm/yuanterm/DigitsIsPlainPinLaw", 7)]
theorem own_EW {Z : State} {a0 : Array Value} (hw : ∀ d ∈ tables_1, d.before a0 Z = true) : EW Z a0 own_EL := EW.cons (wd hw 78 rfl) (by decide +kernel) (EW.nil)
theorem own_t7 : (∀ c ∈ ("0123456789-.eE+x" : String).toList, c.toNat < 256) ∧ ("0123456789-.eE+x" : String).toList.map (fun c => Value.int (Jvm.Lit.byteI c.toNat.toUInt16)) = [.int 48, .int 49, .int 50, .int 51, .int 52, .int 53, .int 54, .int 55, .int 56, .int 57, .int 45, .int 46, .int 101, .int 69, .int 43, .int 120] := ⟨by decide +kernel, by decide +kernel⟩
set_option maxRecDepth 65536 in
set_option maxHeartbeats 40000000 in
theorem D_sisl (l : Launch) (Z : State) (a0 : Array Value) (h0 : Heap) (hw : ∀ d ∈ tables_1, d.before a0 Z = true) (cs : Int32) (hCS : Sta Z h0 "java/lang/String" "COMPACT_STRINGS" "Z" (.int cs)) (hcs : ¬ cs = 0) (a : Addr) (tg : Nat) (v0 : Value) : Does l Z a0 h0 y_13 jdk_42_method_154_code 1 (some .boolean) ({ frames := 0, cells := 0, slots := 0, locals := 0 } : Room) #[.ref a] [(a, ro tg (o_String (v0) (.int 0)))] (fun v F => v = some (.int 1) ∧ F = [(a, ro tg (o_String (v0) (.int 0)))]) := by
  refine Does.mk #[.val (.ref a)] (plainFor_of_name (by decide +kernel)) (fun m => by first | (simp [entryFrame, mkF, argsToLocals, Value.category]; done) | rfl) ?_
  intro p e s m args below meth c h X
  show Goes _ _ _ _ _ _ _ _ _ _ _ _ _ _ _ _ _ _ _ _ [(a, ro tg (o_String (v0) (.int 0)))] 0 0 (mkF m 0 #[.val (.ref a)] [])
  refine Goes.getS X (wd hw 94 rfl) Via.refl hCS ?_
  refine Goes.if1 X (pc' := 17) (o := 14) (cd := .eq) (fun q => absurd (q.symm.trans (by simpa [ifCond.holds] using hcs : ifCond.holds .eq cs = false)) (by decide)) (fun _ => ?_)
  refine Goes.runS X [(.aload_n 0, 1)] (S' := [.ref a]) (pc' := 7) rfl ?_
  refine Goes.getF X 0 1 rfl rfl (wd hw 95 rfl) Via.refl ?_
  refine Goes.if1 X (pc' := 17) (o := 7) (cd := .ne) (fun q => absurd q (by decide)) (fun _ => ?_)
  refine Goes.runS X [(.iconst 1, 1)] (S' := [.int (1 : Int32)]) (pc' := 14) rfl ?_
  refine Goes.goto X (o := 4) (pc' := 18) ?_
  refine Goes.retI X (by simp) rfl ?_
  exact ⟨rfl, rfl⟩
set_option maxRecDepth 65536 in
set_option maxHeartbeats 40000000 in
theorem D_pci (l : Launch) (Z : State) (a0 : Array Value) (h0 : Heap) (hw : ∀ d ∈ tables_1, d.before a0 Z = true) (i n : Int32) (sio : Value) (hsio : sio.category = 1) (g0 : ¬ i < 0) (g1 : i < n) : Does l Z a0 h0 y_16 jdk_41_method_11_code 3 (some .int) ({ frames := 0, cells := 0, slots := 0, locals := 0 } : Room) #[.int i, .int n, sio] [] (fun v F => v = some (.int i) ∧ F = []) := by
  refine Does.mk #[.val (.int i), .val (.int n), .val (sio)] (plainFor_of_name (by decide +kernel)) (fun m => by first | (simp [entryFrame, mkF, argsToLocals, own_cI, own_cJ, own_cR, own_cN, hsio]; done) | rfl) ?_
  intro p e s m args below meth c h X
  show Goes _ _ _ _ _ _ _ _ _ _ _ _ _ _ _ _ _ _ _ _ [] 0 0 (mkF m 0 #[.val (.int i), .val (.int n), .val (sio)] [])
  refine Goes.runS X [(.iload_n 0, 1)] (S' := [.int i]) (pc' := 1) rfl ?_
  refine Goes.if1 X (pc' := 9) (o := 8) (cd := .lt) (fun q => absurd (q.symm.trans (by simpa [ifCond.holds] using g0 : ifCond.holds .lt i = false)) (by decide)) (fun _ => ?_)
  refine Goes.runS X [(.iload_n 0, 1), (.iload_n 1, 1)] (S' := [.int n, .int i]) (pc' := 6) rfl ?_
  refine Goes.if2 X (pc' := 16) (o := 10) (cd := .lt) (fun _ => ?_) (fun q => absurd (q.symm.trans (by simpa [if_icmp.holds] using g1 : if_icmp.holds .lt i n = true)) (by decide))
  refine Goes.runS X [(.iload_n 0, 1)] (S' := [.int i]) (pc' := 17) rfl ?_
  refine Goes.retI X (by simp) rfl ?_
  exact ⟨rfl, rfl⟩
set_option maxRecDepth 65536 in
set_option maxHeartbeats 40000000 in
theorem D_sci (l : Launch) (Z : State) (a0 : Array Value) (h0 : Heap) (hw : ∀ d ∈ tables_1, d.before a0 Z = true) (sio : Value) (hSIO : Sta Z h0 "jdk/internal/util/Preconditions" "SIOOBE_FORMATTER" "Ljava/util/function/BiFunction;" sio) (hsio : sio.category = 1) (i n : Int32) (g0 : ¬ i < 0) (g1 : i < n) : Does l Z a0 h0 y_15 jdk_42_method_155_code 2 none ({ frames := 1, cells := 0, slots := 0, locals := 14 } : Room) #[.int i, .int n] [] (fun v F => v = none ∧ F = []) := by
  refine Does.mk #[.val (.int i), .val (.int n)] (plainFor_of_name (by decide +kernel)) (fun m => by first | (simp [entryFrame, mkF, argsToLocals, Value.category]; done) | rfl) ?_
  intro p e s m args below meth c h X
  show Goes _ _ _ _ _ _ _ _ _ _ _ _ _ _ _ _ _ _ _ _ [] 0 0 (mkF m 0 #[.val (.int i), .val (.int n)] [])
  refine Goes.runS X [(.iload_n 0, 1), (.iload_n 1, 1)] (S' := [.int n, .int i]) (pc' := 2) rfl ?_
  refine Goes.getS X (wd hw 104 rfl) Via.refl hSIO ?_
  refine Goes.callS X 0 [] [] (D_pci l Z a0 h0 hw i n sio hsio g0 g1) (wd hw 106 rfl) (wd hw 107 rfl) (wd hw 105 rfl) (wd hw 108 rfl) pd_y_16 rfl (st := []) rfl rfl (G := []) rfl rfl ?_
  rintro _ _ ⟨rfl, rfl⟩
  refine ⟨Or.inr (Or.inr fun _ q => Or.inr (Or.inr q)), ?_⟩
  refine Goes.runS X [(.pop, 1)] (S' := []) (pc' := 9) rfl ?_
  refine Goes.retV X ?_
  exact ⟨rfl, rfl⟩
set_option maxRecDepth 65536 in
set_option maxHeartbeats 40000000 in
theorem D_lca (l : Launch) (Z : State) (a0 : Array Value) (h0 : Heap) (hw : ∀ d ∈ tables_1, d.before a0 Z = true) (sio : Value) (hSIO : Sta Z h0 "jdk/internal/util/Preconditions" "SIOOBE_FORMATTER" "Ljava/util/function/BiFunction;" sio) (hsio : sio.category = 1) (b : Addr) (tg : Nat) (D : String) (vs : List Value) (n i : Int32) (jn : Nat) (hn : vs.length.toInt32 = n) (hj : i.toNatClampNeg = jn) (g0 : ¬ i < 0) (g1 : i < n) (x : Int32) (hv : vs[jn]? = some (.int x)) : Does l Z a0 h0 y_14 jdk_43_method_2_code 2 (some .char) ({ frames := 2, cells := 0, slots := 0, locals := 27 } : Room) #[.ref b, .int i] [(b, ro tg (ar D .byte vs))] (fun v F => v = some (.int (x &&& 255)) ∧ F = [(b, ro tg (ar D .byte vs))]) := by
  refine Does.mk #[.val (.ref b), .val (.int i)] (plainFor_of_name (by decide +kernel)) (fun m => by first | (simp [entryFrame, mkF, argsToLocals, Value.category]; done) | rfl) ?_
  intro p e s m args below meth c h X
  show Goes _ _ _ _ _ _ _ _ _ _ _ _ _ _ _ _ _ _ _ _ [(b, ro tg (ar D .byte vs))] 0 0 (mkF m 0 #[.val (.ref b), .val (.int i)] [])
  refine Goes.runS X [(.iload_n 1, 1), (.aload_n 0, 1)] (S' := [.ref b, .int i]) (pc' := 2) rfl ?_
  refine Goes.alen X 0 (n := n) rfl hn ?_
  show Goes _ _ _ _ _ _ _ _ _ _ _ _ _ _ _ _ _ _ _ _ [(b, ro tg (ar D .byte vs))] 0 0 (mkF m 3 #[.val (.ref b), .val (.int i)] [.int n, .int i])
  refine Goes.callS X 0 [] [0] (D_sci l Z a0 h0 hw sio hSIO hsio i n g0 g1) (wd hw 101 rfl) (wd hw 102 rfl) (wd hw 31 rfl) (wd hw 103 rfl) pd_y_15 rfl (st := []) rfl rfl (G := [(b, ro tg (ar D .byte vs))]) rfl rfl ?_
  rintro _ _ ⟨rfl, rfl⟩
  refine ⟨Or.inr (Or.inr fun _ q => Or.inr (Or.inr q)), ?_⟩
  refine Goes.runS X [(.aload_n 0, 1), (.iload_n 1, 1)] (S' := [.int i, .ref b]) (pc' := 8) rfl ?_
  refine Goes.baload X 0 jn rfl hj g0 hv ?_
  show Goes _ _ _ _ _ _ _ _ _ _ _ _ _ _ _ _ _ _ _ _ [(b, ro tg (ar D .byte vs))] 0 0 (mkF m 9 #[.val (.ref b), .val (.int i)] [.int x])
  refine Goes.runS X [(.sipush 255, 3), (.iand, 1), (.i2c, 1)] (S' := [.int (oI2c (x &&& (255 : Int32)))]) (pc' := 14) rfl ?_
  rw [own_i2c (own_mask x 255 (by decide)).1 (own_mask x 255 (by decide)).2]
  show Goes _ _ _ _ _ _ _ _ _ _ _ _ _ _ _ _ _ _ _ _ [(b, ro tg (ar D .byte vs))] 0 0 (mkF m 14 #[.val (.ref b), .val (.int i)] [.int (x &&& (255 : Int32))])
  refine Goes.retI X (by simp) (own_nch (own_mask x 255 (by decide)).1 (own_mask x 255 (by decide)).2) ?_
  exact ⟨rfl, rfl⟩
set_option maxRecDepth 65536 in
set_option maxHeartbeats 40000000 in
theorem D_ca (l : Launch) (Z : State) (a0 : Array Value) (h0 : Heap) (hw : ∀ d ∈ tables_1, d.before a0 Z = true) (cs : Int32) (hCS : Sta Z h0 "java/lang/String" "COMPACT_STRINGS" "Z" (.int cs)) (hcs : ¬ cs = 0) (sio : Value) (hSIO : Sta Z h0 "jdk/internal/util/Preconditions" "SIOOBE_FORMATTER" "Ljava/util/function/BiFunction;" sio) (hsio : sio.category = 1) (b : Addr) (ts tg : Nat) (a : Addr) (D : String) (vs : List Value) (n i : Int32) (jn : Nat) (hn : vs.length.toInt32 = n) (hj : i.toNatClampNeg = jn) (g0 : ¬ i < 0) (g1 : i < n) (x : Int32) (hv : vs[jn]? = some (.int x)) : Does l Z a0 h0 y_12 jdk_42_method_56_code 2 (some .char) ({ frames := 3, cells := 0, slots := 0, locals := 40 } : Room) #[.ref a, .int i] [(a, ro ts (o_String (.ref b) (.int 0))), (b, ro tg (ar D .byte vs))] (fun v F => v = some (.int (x &&& 255)) ∧ F = [(a, ro ts (o_String (.ref b) (.int 0))), (b, ro tg (ar D .byte vs))]) := by
  refine Does.mk #[.val (.ref a), .val (.int i)] (plainFor_of_name (by decide +kernel)) (fun m => by first | (simp [entryFrame, mkF, argsToLocals, Value.category]; done) | rfl) ?_
  intro p e s m args below meth c h X
  show Goes _ _ _ _ _ _ _ _ _ _ _ _ _ _ _ _ _ _ _ _ [(a, ro ts (o_String (.ref b) (.int 0))), (b, ro tg (ar D .byte vs))] 0 0 (mkF m 0 #[.val (.ref a), .val (.int i)] [])
  refine Goes.runS X [(.aload_n 0, 1)] (S' := [.ref a]) (pc' := 1) rfl ?_
  refine Goes.callV X 0 0 [0] [1] rfl (D_sisl l Z a0 h0 hw cs hCS hcs a ts (.ref b)) (wd hw 89 rfl) (wd hw 90 rfl) (wd hw 92 rfl) (wd hw 91 rfl) (own_nf X (wd hw 92 rfl)) (wd hw 31 rfl) (wd hw 93 rfl) pd_y_13 rfl (st := []) rfl rfl (G := [(b, ro tg (ar D .byte vs))]) rfl rfl ?_
  rintro _ _ ⟨rfl, rfl⟩
  refine ⟨Or.inr (Or.inr fun _ q => Or.inr (Or.inr q)), ?_⟩
  refine Goes.if1 X (pc' := 16) (o := 12) (cd := .eq) (fun q => absurd q (by decide)) (fun _ => ?_)
  refine Goes.runS X [(.aload_n 0, 1)] (S' := [.ref a]) (pc' := 8) rfl ?_
  refine Goes.getF X 0 0 rfl rfl (wd hw 96 rfl) Via.refl ?_
  refine Goes.runS X [(.iload_n 1, 1)] (S' := [.int i, .ref b]) (pc' := 12) rfl ?_
  refine Goes.callS X 0 [1] [0] (D_lca l Z a0 h0 hw sio hSIO hsio b tg D vs n i jn hn hj g0 g1 x hv) (wd hw 97 rfl) (wd hw 98 rfl) (wd hw 99 rfl) (wd hw 100 rfl) pd_y_14 rfl (st := []) rfl rfl (G := [(a, ro ts (o_String (.ref b) (.int 0)))]) rfl rfl ?_
  rintro _ _ ⟨rfl, rfl⟩
  refine ⟨Or.inr (Or.inr fun _ q => Or.inr (Or.inr q)), ?_⟩
  refine Goes.sub [1, 0] (G := [(a, ro ts (o_String (.ref b) (.int 0))), (b, ro tg (ar D .byte vs))]) rfl ?_
  refine Goes.retI X (by simp) (own_nch (own_mask x 255 (by decide)).1 (own_mask x 255 (by decide)).2) ?_
  exact ⟨rfl, rfl⟩
theorem own_v16 : ∀ j : Nat, j < 16 → ∃ x : Int32, ([.int 48, .int 49, .int 50, .int 51, .int 52, .int 53, .int 54, .int 55, .int 56, .int 57, .int 45, .int 46, .int 101, .int 69, .int 43, .int 120] : List Value)[j]? = some (.int x)
  | 0, _ => ⟨_, rfl⟩
  | 1, _ => ⟨_, rfl⟩
  | 2, _ => ⟨_, rfl⟩
  | 3, _ => ⟨_, rfl⟩
  | 4, _ => ⟨_, rfl⟩
  | 5, _ => ⟨_, rfl⟩
  | 6, _ => ⟨_, rfl⟩
  | 7, _ => ⟨_, rfl⟩
  | 8, _ => ⟨_, rfl⟩
  | 9, _ => ⟨_, rfl⟩
  | 10, _ => ⟨_, rfl⟩
  | 11, _ => ⟨_, rfl⟩
  | 12, _ => ⟨_, rfl⟩
  | 13, _ => ⟨_, rfl⟩
  | 14, _ => ⟨_, rfl⟩
  | 15, _ => ⟨_, rfl⟩
  | n + 16, h => absurd h (by omega)
theorem own_i15 (c : Int32) : ¬ (c &&& 15) < 0 ∧ (c &&& 15) < 16 ∧ (c &&& 15).toNatClampNeg < 16 := by
  have h := own_mask c 15 (by decide)
  have e : (15 : Int32).toInt = 15 := rfl
  rw [e] at h
  refine ⟨fun q => ?_, ?_, ?_⟩
  · have := Int32.lt_iff_toInt_lt.mp q; have e0 : (0 : Int32).toInt = 0 := rfl; omega
  · apply Int32.lt_iff_toInt_lt.mpr; have e0 : (16 : Int32).toInt = 16 := rfl; omega
  · show (c &&& 15).toInt.toNat < 16; omega
theorem own_m511 (z : Int32) (h : ¬ 256 ≤ (z &&& 511)) : 0 ≤ (z &&& 511).toInt ∧ (z &&& 511).toInt ≤ 255 := by
  have h1 := own_mask z 511 (by decide)
  refine ⟨h1.1, ?_⟩
  have : ¬ (256 : Int32).toInt ≤ (z &&& 511).toInt := fun q => h (Int32.le_iff_toInt_le.mpr q)
  have e0 : (256 : Int32).toInt = 256 := rfl
  omega
set_option maxRecDepth 65536 in
set_option maxHeartbeats 40000000 in
theorem D_pick (l : Launch) (Z : State) (a0 : Array Value) (h0 : Heap) (hw : ∀ d ∈ tables_1, d.before a0 Z = true) (cs : Int32) (hCS : Sta Z h0 "java/lang/String" "COMPACT_STRINGS" "Z" (.int cs)) (hcs : ¬ cs = 0) (sio : Value) (hSIO : Sta Z h0 "jdk/internal/util/Preconditions" "SIOOBE_FORMATTER" "Ljava/util/function/BiFunction;" sio) (hsio : sio.category = 1) (z : Int32) : DoesW l Z a0 own_EL h0 y_0 method_2_code 2 (some .char) ({ frames := 4, cells := 2, slots := 68, locals := 53 } : Room) #[.int z] [] (fun v F => ∃ c, v = some (.int c) ∧ 0 ≤ c.toInt ∧ c.toInt ≤ 255 ∧ F = []) := by
  refine DoesW.mk #[.val (.int z), .unset] (plainFor_of_name (by decide +kernel)) (fun m => by first | (simp [entryFrame, mkF, argsToLocals, Value.category]; done) | rfl) ?_
  intro p e s0 vmS vm0 k0 m args below meth c h X
  show Goes _ _ _ _ _ _ _ _ _ _ _ _ _ _ _ _ _ _ _ _ [] 0 0 (mkF m 0 #[.val (.int z), .unset] [])
  refine Goes.run X [(.iload_n 0, 1), (.sipush 511, 3), (.iand, 1), (.istore_n 1, 1), (.iload_n 1, 1), (.sipush 256, 3)] (L' := #[.val (.int z), .val (.int (z &&& (511 : Int32)))]) (S' := [.int (256 : Int32), .int (z &&& (511 : Int32))]) (pc' := 10) rfl ?_
  refine Goes.if2 X (pc' := 16) (o := 6) (cd := .ge) (fun q177 => ?_) (fun q177 => ?_)
  · refine Goes.ldcR X 64 [.int 48, .int 49, .int 50, .int 51, .int 52, .int 53, .int 54, .int 55, .int 56, .int 57, .int 45, .int 46, .int 101, .int 69, .int 43, .int 120] 16 (wd hw 78 rfl) (own_wS hw) (by decide) (own_Lv hw) (own_Lc hw) own_t7 (by decide) (by decide) (by decide) (fun a178 b179 vm0 k0 X => ?_)
    refine Goes.runS X [(.iload_n 1, 1), (.bipush 15, 2), (.iand, 1)] (S' := [.int ((z &&& (511 : Int32)) &&& (15 : Int32)), .ref a178]) (pc' := 22) rfl ?_
    obtain ⟨x, hx⟩ := own_v16 _ (own_i15 (z &&& (511 : Int32))).2.2
    refine Goes.callV X 0 0 [0, 1] [] rfl (D_ca l Z a0 h0 hw cs hCS hcs sio hSIO hsio b179 2 2 a178 "" _ 16 ((z &&& (511 : Int32)) &&& (15 : Int32)) _ rfl rfl (own_i15 _).1 (own_i15 _).2.1 x hx) (wd hw 84 rfl) (wd hw 85 rfl) (wd hw 87 rfl) (wd hw 86 rfl) (own_nf X (wd hw 87 rfl)) (wd hw 31 rfl) (wd hw 88 rfl) pd_y_12 rfl (st := []) rfl rfl (G := []) rfl rfl ?_
    rintro _ _ ⟨rfl, rfl⟩
    refine ⟨Or.inr (Or.inr fun _ q => Or.inr (Or.inr q)), ?_⟩
    refine Goes.sub [] (G := []) rfl ?_
    refine Goes.retI X (by simp) (own_nch (own_mask x 255 (by decide)).1 (own_mask x 255 (by decide)).2) ?_
    exact ⟨_, rfl, (own_mask x 255 (by decide)).1, (own_mask x 255 (by decide)).2, rfl⟩
  · have h180 := own_m511 z (by simpa [if_icmp.holds] using q177)
    refine Goes.runS X [(.iload_n 1, 1), (.i2c, 1)] (S' := [.int (oI2c (z &&& (511 : Int32)))]) (pc' := 15) rfl ?_
    rw [own_i2c h180.1 h180.2]
    show Goes _ _ _ _ _ _ _ _ _ _ _ _ _ _ _ _ _ _ _ _ [] 0 0 (mkF m 15 #[.val (.int z), .val (.int (z &&& (511 : Int32)))] [.int (z &&& (511 : Int32))])
    refine Goes.retI X (by simp) (own_nch h180.1 h180.2) ?_
    exact ⟨_, rfl, h180.1, h180.2, rfl⟩
set_option maxRecDepth 65536 in
set_option maxHeartbeats 40000000 in
theorem D_dg (l : Launch) (Z : State) (a0 : Array Value) (h0 : Heap) (hw : ∀ d ∈ tables_1, d.before a0 Z = true) (c' : Int32) : Does l Z a0 h0 y_11 method_3_code 1 (some .boolean) ({ frames := 0, cells := 0, slots := 0, locals := 0 } : Room) #[.int c'] [] (fun v F => v = some (.int (own_dig c')) ∧ F = []) := by
  refine Does.mk #[.val (.int c')] (plainFor_of_name (by decide +kernel)) (fun m => by first | (simp [entryFrame, mkF, argsToLocals, Value.category]; done) | rfl) ?_
  intro p e s m args below meth c h X
  show Goes _ _ _ _ _ _ _ _ _ _ _ _ _ _ _ _ _ _ _ _ [] 0 0 (mkF m 0 #[.val (.int c')] [])
  refine Goes.runS X [(.iload_n 0, 1), (.bipush 48, 2)] (S' := [.int (48 : Int32), .int c']) (pc' := 3) rfl ?_
  refine Goes.if2 X (pc' := 16) (o := 13) (cd := .lt) (fun q181 => ?_) (fun q181 => ?_)
  · have h182 : c' < 48 := by simpa [if_icmp.holds] using q181
    refine Goes.runS X [(.iconst 0, 1)] (S' := [.int (0 : Int32)]) (pc' := 17) rfl ?_
    refine Goes.retI X (by simp) rfl ?_
    exact ⟨by simp [own_dig, h182], rfl⟩
  · have h183 : ¬ c' < 48 := by simpa [if_icmp.holds] using q181
    refine Goes.runS X [(.iload_n 0, 1), (.bipush 57, 2)] (S' := [.int (57 : Int32), .int c']) (pc' := 9) rfl ?_
    refine Goes.if2 X (pc' := 16) (o := 7) (cd := .gt) (fun q184 => ?_) (fun q184 => ?_)
    · have h185 : 57 < c' := by simpa [if_icmp.holds] using q184
      refine Goes.runS X [(.iconst 0, 1)] (S' := [.int (0 : Int32)]) (pc' := 17) rfl ?_
      refine Goes.retI X (by simp) rfl ?_
      exact ⟨by simp [own_dig, h183, h185], rfl⟩
    · have h186 : ¬ 57 < c' := by simpa [if_icmp.holds] using q184
      refine Goes.runS X [(.iconst 1, 1)] (S' := [.int (1 : Int32)]) (pc' := 13) rfl ?_
      refine Goes.goto X (o := 4) (pc' := 17) ?_
      refine Goes.retI X (by simp) rfl ?_
      exact ⟨by simp [own_dig, h183, h186], rfl⟩
def own_cl (c : Int32) : Nat := if c = 45 then 0 else if c = 43 then 1 else if c = 46 then 2 else if c = 101 then 3 else if c = 69 then 3 else if own_dig c = 0 then 5 else 4
theorem own_cl_lt (c : Int32) : own_cl c < 6 := by unfold own_cl; (repeat' split) <;> decide
theorem own_cl0 (c : Int32) : own_cl c = 0 ↔ c = 45 := by
  unfold own_cl; repeat' split
  all_goals simp_all
theorem own_cl01 (c : Int32) : own_cl c ≤ 1 ↔ c = 45 ∨ c = 43 := by
  unfold own_cl; repeat' split
  all_goals simp_all
theorem own_cl2 (c : Int32) : own_cl c = 2 ↔ c = 46 := by
  unfold own_cl; repeat' split
  all_goals simp_all
theorem own_cl3 (c : Int32) : own_cl c = 3 ↔ c = 101 ∨ c = 69 := by
  unfold own_cl; repeat' split
  all_goals simp_all
theorem own_cl4 (c : Int32) : own_cl c = 4 ↔ ¬ own_dig c = 0 := by
  unfold own_cl; repeat' split
  all_goals first | (subst_vars; decide) | simp_all
theorem own_cl5 (c : Int32) : own_cl c = 5 ↔ own_dig c = 0 ∧ ¬ c = 46 ∧ ¬ c = 101 ∧ ¬ c = 69 ∧ ¬ c = 43 ∧ ¬ c = 45 := by
  unfold own_cl; repeat' split
  all_goals simp_all
def own_badN (n a j cl : Nat) : Nat := if j < n then (if j < a then 0 else if cl = 4 then 0 else if cl = 2 then 0 else 1) else 0
def own_dotN (n j cl : Nat) : Nat := if j < n then (if cl = 2 then 1 else 0) else 0
def own_fdN (n x0 x1 x2 x3 x4 : Nat) : Nat := if own_dotN n 0 x0 = 1 then 0 else if own_dotN n 1 x1 = 1 then 1 else if own_dotN n 2 x2 = 1 then 2 else if own_dotN n 3 x3 = 1 then 3 else if own_dotN n 4 x4 = 1 then 4 else 9
def own_fdI (k : Nat) : Int32 := if k = 9 then -1 else Int32.ofNat k
theorem own_badN_le (n a j cl : Nat) : own_badN n a j cl ≤ 1 := by unfold own_badN; (repeat' split) <;> decide
theorem own_dotN_le (n j cl : Nat) : own_dotN n j cl ≤ 1 := by unfold own_dotN; (repeat' split) <;> decide
theorem own_fdN_le (n x0 x1 x2 x3 x4 : Nat) : own_fdN n x0 x1 x2 x3 x4 ≤ 9 := by unfold own_fdN; (repeat' split) <;> decide
def own_g (L : List Nat) (i : Nat) : Nat := L.getD i 9
def own_badL (n a : Nat) (L : List Nat) : Nat := own_badN n a 0 (own_g L 0) + own_badN n a 1 (own_g L 1) + own_badN n a 2 (own_g L 2) + own_badN n a 3 (own_g L 3) + own_badN n a 4 (own_g L 4)
def own_dotL (n : Nat) (L : List Nat) : Nat := own_dotN n 0 (own_g L 0) + own_dotN n 1 (own_g L 1) + own_dotN n 2 (own_g L 2) + own_dotN n 3 (own_g L 3) + own_dotN n 4 (own_g L 4)
def own_fdL (n : Nat) (L : List Nat) : Nat := own_fdN n (own_g L 0) (own_g L 1) (own_g L 2) (own_g L 3) (own_g L 4)
theorem own_badL_le (n a : Nat) (L : List Nat) : own_badL n a L ≤ 9 := by
  have := own_badN_le n a 0 (own_g L 0); have := own_badN_le n a 1 (own_g L 1); have := own_badN_le n a 2 (own_g L 2); have := own_badN_le n a 3 (own_g L 3); have := own_badN_le n a 4 (own_g L 4)
  unfold own_badL; omega
theorem own_dotL_le (n : Nat) (L : List Nat) : own_dotL n L ≤ 9 := by
  have := own_dotN_le n 0 (own_g L 0); have := own_dotN_le n 1 (own_g L 1); have := own_dotN_le n 2 (own_g L 2); have := own_dotN_le n 3 (own_g L 3); have := own_dotN_le n 4 (own_g L 4)
  unfold own_dotL; omega
def own_refA (n a : Nat) (L : List Nat) : Nat := if n ≤ a then 0 else if own_badL n a L = 0 then (if 1 < own_dotL n L then 0 else if own_dotL n L = 0 then 1 else if own_fdL n L = a then 0 else if own_fdL n L = n - 1 then 0 else 1) else 0
def own_refN (n : Nat) (L : List Nat) : Nat := own_refA n (if 0 < n ∧ own_g L 0 = 0 then 1 else 0) L
theorem own_s0 : ∀ x : Nat, x ≤ 9 → (ifCond.holds .ne (Int32.ofNat x) = true ↔ ¬ x = 0) := by decide
theorem own_s0' : ∀ x : Nat, x ≤ 9 → (ifCond.holds .eq (Int32.ofNat x) = true ↔ x = 0) := by decide
theorem own_s1 : ∀ x : Nat, x ≤ 9 → (if_icmp.holds .gt (Int32.ofNat x) 1 = true ↔ 1 < x) := by decide
theorem own_s2 : ∀ x : Nat, x ≤ 1 → (if_icmp.holds .ne (Int32.ofNat x) 1 = true ↔ ¬ x = 1) := by decide
theorem own_s3 : ∀ x : Nat, x ≤ 9 → ∀ k : Nat, k ≤ 5 → (if_icmp.holds .eq (own_fdI x) (Int32.ofNat k) = true ↔ x = k) := by decide
theorem own_s6 : ∀ x : Nat, x ≤ 7 → ∀ y : Nat, y ≤ 7 → (if_icmp.holds .lt (Int32.ofNat x) (Int32.ofNat y) = true ↔ x < y) := by decide
theorem own_s7 : ∀ x : Nat, x ≤ 7 → ∀ y : Nat, y ≤ 7 → (if_icmp.holds .ge (Int32.ofNat x) (Int32.ofNat y) = true ↔ ¬ x < y) := by decide
theorem own_sT {b : Bool} {P : Prop} (h : b = true ↔ P) (q : b = true) : P := h.mp q
theorem own_sF {b : Bool} {P : Prop} (h : b = true ↔ P) (q : b = false) : ¬ P := fun z => by rw [h.mpr z] at q; cases q
theorem own_j7 : ∀ j : Nat, j < 7 → (Int32.ofNat j).toNatClampNeg = j ∧ ¬ (Int32.ofNat j) < 0 := by decide
set_option maxRecDepth 65536 in
set_option maxHeartbeats 40000000 in
theorem D_bad (l : Launch) (Z : State) (a0 : Array Value) (h0 : Heap) (hw : ∀ d ∈ tables_1, d.before a0 Z = true) (b : Addr) (vs : List Value) (n a j : Nat) (ha : a ≤ 1) (hn : n ≤ 6) (hj : j < 6) (c' : Int32) (hv : vs[j]? = some (.int c')) : Does l Z a0 h0 y_6 method_4_code 4 (some .int) ({ frames := 1, cells := 0, slots := 0, locals := 12 } : Room) #[.ref b, .int (Int32.ofNat j), .int (Int32.ofNat n), .int (Int32.ofNat a)] [(b, ar "[C" .char vs)] (fun v F => v = some (.int (Int32.ofNat (own_badN n a j (own_cl c')))) ∧ F = [(b, ar "[C" .char vs)]) := by
  refine Does.mk #[.val (.ref b), .val (.int (Int32.ofNat j)), .val (.int (Int32.ofNat n)), .val (.int (Int32.ofNat a))] (plainFor_of_name (by decide +kernel)) (fun m => by first | (simp [entryFrame, mkF, argsToLocals, Value.category]; done) | rfl) ?_
  intro p e s m args below meth c h X
  show Goes _ _ _ _ _ _ _ _ _ _ _ _ _ _ _ _ _ _ _ _ [(b, ar "[C" .char vs)] 0 0 (mkF m 0 #[.val (.ref b), .val (.int (Int32.ofNat j)), .val (.int (Int32.ofNat n)), .val (.int (Int32.ofNat a))] [])
  refine Goes.runS X [(.iload_n 1, 1), (.iload_n 2, 1)] (S' := [.int (Int32.ofNat n), .int (Int32.ofNat j)]) (pc' := 2) rfl ?_
  refine Goes.if2 X (pc' := 29) (o := 27) (cd := .ge) (fun q187 => ?_) (fun q187 => ?_)
  · have h188 := own_sT (own_s7 j (by omega) n (by omega)) q187
    refine Goes.runS X [(.iconst 0, 1)] (S' := [.int (0 : Int32)]) (pc' := 30) rfl ?_
    refine Goes.retI X (by simp) rfl ?_
    exact ⟨by rw [own_badN, if_neg h188]; rfl, rfl⟩
  · have h189 := own_sF (own_s7 j (by omega) n (by omega)) q187
    have h189 := Classical.not_not.mp h189
    refine Goes.runS X [(.iload_n 1, 1), (.iload_n 3, 1)] (S' := [.int (Int32.ofNat a), .int (Int32.ofNat j)]) (pc' := 7) rfl ?_
    refine Goes.if2 X (pc' := 29) (o := 22) (cd := .lt) (fun q190 => ?_) (fun q190 => ?_)
    · have h191 := own_sT (own_s6 j (by omega) a (by omega)) q190
      refine Goes.runS X [(.iconst 0, 1)] (S' := [.int (0 : Int32)]) (pc' := 30) rfl ?_
      refine Goes.retI X (by simp) rfl ?_
      exact ⟨by rw [own_badN, if_pos h189, if_pos h191]; rfl, rfl⟩
    · have h192 := own_sF (own_s6 j (by omega) a (by omega)) q190
      refine Goes.runS X [(.aload_n 0, 1), (.iload_n 1, 1)] (S' := [.int (Int32.ofNat j), .ref b]) (pc' := 12) rfl ?_
      refine Goes.caload X 0 j rfl (own_j7 j (by omega)).1 (own_j7 j (by omega)).2 hv ?_
      show Goes _ _ _ _ _ _ _ _ _ _ _ _ _ _ _ _ _ _ _ _ [(b, ar "[C" .char vs)] 0 0 (mkF m 13 #[.val (.ref b), .val (.int (Int32.ofNat j)), .val (.int (Int32.ofNat n)), .val (.int (Int32.ofNat a))] [.int c'])
      refine Goes.callS X 0 [] [0] (D_dg l Z a0 h0 hw c') (wd hw 75 rfl) (wd hw 76 rfl) (wd hw 4 rfl) (wd hw 77 rfl) pd_y_11 rfl (st := []) rfl rfl (G := [(b, ar "[C" .char vs)]) rfl rfl ?_
      rintro _ _ ⟨rfl, rfl⟩
      refine ⟨Or.inr (Or.inr fun _ q => Or.inr (Or.inr q)), ?_⟩
      refine Goes.if1 X (pc' := 29) (o := 13) (cd := .ne) (fun q193 => ?_) (fun q193 => ?_)
      · have h194 : own_cl c' = 4 := by rw [own_cl4]; simpa [ifCond.holds] using q193
        refine Goes.runS X [(.iconst 0, 1)] (S' := [.int (0 : Int32)]) (pc' := 30) rfl ?_
        refine Goes.retI X (by simp) rfl ?_
        exact ⟨by rw [own_badN, if_pos h189, if_neg h192, if_pos h194]; rfl, rfl⟩
      · have h195 : ¬ own_cl c' = 4 := by rw [own_cl4]; simpa [ifCond.holds] using q193
        refine Goes.runS X [(.aload_n 0, 1), (.iload_n 1, 1)] (S' := [.int (Int32.ofNat j), .ref b]) (pc' := 21) rfl ?_
        refine Goes.caload X 0 j rfl (own_j7 j (by omega)).1 (own_j7 j (by omega)).2 hv ?_
        show Goes _ _ _ _ _ _ _ _ _ _ _ _ _ _ _ _ _ _ _ _ [(b, ar "[C" .char vs)] 0 0 (mkF m 22 #[.val (.ref b), .val (.int (Int32.ofNat j)), .val (.int (Int32.ofNat n)), .val (.int (Int32.ofNat a))] [.int c'])
        refine Goes.runS X [(.bipush 46, 2)] (S' := [.int (46 : Int32), .int c']) (pc' := 24) rfl ?_
        refine Goes.if2 X (pc' := 29) (o := 5) (cd := .eq) (fun q196 => ?_) (fun q196 => ?_)
        · have h197 : own_cl c' = 2 := by rw [own_cl2]; simpa [if_icmp.holds] using q196
          refine Goes.runS X [(.iconst 0, 1)] (S' := [.int (0 : Int32)]) (pc' := 30) rfl ?_
          refine Goes.retI X (by simp) rfl ?_
          exact ⟨by rw [own_badN, if_pos h189, if_neg h192, if_neg h195, if_pos h197]; rfl, rfl⟩
        · have h198 : ¬ own_cl c' = 2 := by rw [own_cl2]; simpa [if_icmp.holds] using q196
          refine Goes.runS X [(.iconst 1, 1)] (S' := [.int (1 : Int32)]) (pc' := 28) rfl ?_
          refine Goes.retI X (by simp) rfl ?_
          exact ⟨by rw [own_badN, if_pos h189, if_neg h192, if_neg h195, if_neg h198]; rfl, rfl⟩
set_option maxRecDepth 65536 in
set_option maxHeartbeats 40000000 in
theorem D_dot (l : Launch) (Z : State) (a0 : Array Value) (h0 : Heap) (hw : ∀ d ∈ tables_1, d.before a0 Z = true) (b : Addr) (vs : List Value) (n j : Nat) (hn : n ≤ 6) (hj : j < 6) (c' : Int32) (hv : vs[j]? = some (.int c')) : Does l Z a0 h0 y_7 method_5_code 3 (some .int) ({ frames := 0, cells := 0, slots := 0, locals := 0 } : Room) #[.ref b, .int (Int32.ofNat j), .int (Int32.ofNat n)] [(b, ar "[C" .char vs)] (fun v F => v = some (.int (Int32.ofNat (own_dotN n j (own_cl c')))) ∧ F = [(b, ar "[C" .char vs)]) := by
  refine Does.mk #[.val (.ref b), .val (.int (Int32.ofNat j)), .val (.int (Int32.ofNat n))] (plainFor_of_name (by decide +kernel)) (fun m => by first | (simp [entryFrame, mkF, argsToLocals, Value.category]; done) | rfl) ?_
  intro p e s m args below meth c h X
  show Goes _ _ _ _ _ _ _ _ _ _ _ _ _ _ _ _ _ _ _ _ [(b, ar "[C" .char vs)] 0 0 (mkF m 0 #[.val (.ref b), .val (.int (Int32.ofNat j)), .val (.int (Int32.ofNat n))] [])
  refine Goes.runS X [(.iload_n 1, 1), (.iload_n 2, 1)] (S' := [.int (Int32.ofNat n), .int (Int32.ofNat j)]) (pc' := 2) rfl ?_
  refine Goes.if2 X (pc' := 15) (o := 13) (cd := .ge) (fun q199 => ?_) (fun q199 => ?_)
  · have h200 := own_sT (own_s7 j (by omega) n (by omega)) q199
    refine Goes.runS X [(.iconst 0, 1)] (S' := [.int (0 : Int32)]) (pc' := 16) rfl ?_
    refine Goes.retI X (by simp) rfl ?_
    exact ⟨by rw [own_dotN, if_neg h200]; rfl, rfl⟩
  · have h201 := own_sF (own_s7 j (by omega) n (by omega)) q199
    have h201 := Classical.not_not.mp h201
    refine Goes.runS X [(.aload_n 0, 1), (.iload_n 1, 1)] (S' := [.int (Int32.ofNat j), .ref b]) (pc' := 7) rfl ?_
    refine Goes.caload X 0 j rfl (own_j7 j (by omega)).1 (own_j7 j (by omega)).2 hv ?_
    show Goes _ _ _ _ _ _ _ _ _ _ _ _ _ _ _ _ _ _ _ _ [(b, ar "[C" .char vs)] 0 0 (mkF m 8 #[.val (.ref b), .val (.int (Int32.ofNat j)), .val (.int (Int32.ofNat n))] [.int c'])
    refine Goes.runS X [(.bipush 46, 2)] (S' := [.int (46 : Int32), .int c']) (pc' := 10) rfl ?_
    refine Goes.if2 X (pc' := 15) (o := 5) (cd := .ne) (fun q202 => ?_) (fun q202 => ?_)
    · have h203 : ¬ own_cl c' = 2 := by rw [own_cl2]; simpa [if_icmp.holds] using q202
      refine Goes.runS X [(.iconst 0, 1)] (S' := [.int (0 : Int32)]) (pc' := 16) rfl ?_
      refine Goes.retI X (by simp) rfl ?_
      exact ⟨by rw [own_dotN, if_pos h201, if_neg h203]; rfl, rfl⟩
    · have h204 : own_cl c' = 2 := by rw [own_cl2]; simpa [if_icmp.holds] using q202
      refine Goes.runS X [(.iconst 1, 1)] (S' := [.int (1 : Int32)]) (pc' := 14) rfl ?_
      refine Goes.retI X (by simp) rfl ?_
      exact ⟨by rw [own_dotN, if_pos h201, if_pos h204]; rfl, rfl⟩
set_option maxRecDepth 65536 in
set_option maxHeartbeats 40000000 in
theorem D_fd (l : Launch) (Z : State) (a0 : Array Value) (h0 : Heap) (hw : ∀ d ∈ tables_1, d.before a0 Z = true) (b : Addr) (c0 c1 c2 c3 c4 : Int32) (n : Nat) (hn : n ≤ 6) : Does l Z a0 h0 y_8 method_6_code 2 (some .int) ({ frames := 1, cells := 0, slots := 0, locals := 14 } : Room) #[.ref b, .int (Int32.ofNat n)] [(b, ar "[C" .char [.int c0, .int c1, .int c2, .int c3, .int c4])] (fun v F => v = some (.int (own_fdI (own_fdN n (own_cl c0) (own_cl c1) (own_cl c2) (own_cl c3) (own_cl c4)))) ∧ F = [(b, ar "[C" .char [.int c0, .int c1, .int c2, .int c3, .int c4])]) := by
  refine Does.mk #[.val (.ref b), .val (.int (Int32.ofNat n))] (plainFor_of_name (by decide +kernel)) (fun m => by first | (simp [entryFrame, mkF, argsToLocals, Value.category]; done) | rfl) ?_
  intro p e s m args below meth c h X
  show Goes _ _ _ _ _ _ _ _ _ _ _ _ _ _ _ _ _ _ _ _ [(b, ar "[C" .char [.int c0, .int c1, .int c2, .int c3, .int c4])] 0 0 (mkF m 0 #[.val (.ref b), .val (.int (Int32.ofNat n))] [])
  refine Goes.runS X [(.aload_n 0, 1), (.iconst 0, 1), (.iload_n 1, 1)] (S' := [.int (Int32.ofNat n), .int (0 : Int32), .ref b]) (pc' := 3) rfl ?_
  refine Goes.callS X 0 [0] [] (D_dot l Z a0 h0 hw b _ n 0 (by omega) (by decide) c0 rfl) (wd hw 60 rfl) (wd hw 61 rfl) (wd hw 4 rfl) (wd hw 62 rfl) pd_y_7 rfl (st := []) rfl rfl (G := []) rfl rfl ?_
  rintro _ _ ⟨rfl, rfl⟩
  refine ⟨Or.inr (Or.inr fun _ q => Or.inr (Or.inr q)), ?_⟩
  refine Goes.runS X [(.iconst 1, 1)] (S' := [.int (1 : Int32), .int (Int32.ofNat (own_dotN n 0 (own_cl c0)))]) (pc' := 7) rfl ?_
  refine Goes.if2 X (pc' := 12) (o := 5) (cd := .ne) (fun q205 => ?_) (fun q205 => ?_)
  · have h206 := own_sT (own_s2 _ (own_dotN_le _ _ _)) q205
    refine Goes.runS X [(.aload_n 0, 1), (.iconst 1, 1), (.iload_n 1, 1)] (S' := [.int (Int32.ofNat n), .int (1 : Int32), .ref b]) (pc' := 15) rfl ?_
    refine Goes.callS X 0 [0] [] (D_dot l Z a0 h0 hw b _ n 1 (by omega) (by decide) c1 rfl) (wd hw 60 rfl) (wd hw 61 rfl) (wd hw 4 rfl) (wd hw 62 rfl) pd_y_7 rfl (st := []) rfl rfl (G := []) rfl rfl ?_
    rintro _ _ ⟨rfl, rfl⟩
    refine ⟨Or.inr (Or.inr fun _ q => Or.inr (Or.inr q)), ?_⟩
    refine Goes.runS X [(.iconst 1, 1)] (S' := [.int (1 : Int32), .int (Int32.ofNat (own_dotN n 1 (own_cl c1)))]) (pc' := 19) rfl ?_
    refine Goes.if2 X (pc' := 24) (o := 5) (cd := .ne) (fun q207 => ?_) (fun q207 => ?_)
    · have h208 := own_sT (own_s2 _ (own_dotN_le _ _ _)) q207
      refine Goes.runS X [(.aload_n 0, 1), (.iconst 2, 1), (.iload_n 1, 1)] (S' := [.int (Int32.ofNat n), .int (2 : Int32), .ref b]) (pc' := 27) rfl ?_
      refine Goes.callS X 0 [0] [] (D_dot l Z a0 h0 hw b _ n 2 (by omega) (by decide) c2 rfl) (wd hw 60 rfl) (wd hw 61 rfl) (wd hw 4 rfl) (wd hw 62 rfl) pd_y_7 rfl (st := []) rfl rfl (G := []) rfl rfl ?_
      rintro _ _ ⟨rfl, rfl⟩
      refine ⟨Or.inr (Or.inr fun _ q => Or.inr (Or.inr q)), ?_⟩
      refine Goes.runS X [(.iconst 1, 1)] (S' := [.int (1 : Int32), .int (Int32.ofNat (own_dotN n 2 (own_cl c2)))]) (pc' := 31) rfl ?_
      refine Goes.if2 X (pc' := 36) (o := 5) (cd := .ne) (fun q209 => ?_) (fun q209 => ?_)
      · have h210 := own_sT (own_s2 _ (own_dotN_le _ _ _)) q209
        refine Goes.runS X [(.aload_n 0, 1), (.iconst 3, 1), (.iload_n 1, 1)] (S' := [.int (Int32.ofNat n), .int (3 : Int32), .ref b]) (pc' := 39) rfl ?_
        refine Goes.callS X 0 [0] [] (D_dot l Z a0 h0 hw b _ n 3 (by omega) (by decide) c3 rfl) (wd hw 60 rfl) (wd hw 61 rfl) (wd hw 4 rfl) (wd hw 62 rfl) pd_y_7 rfl (st := []) rfl rfl (G := []) rfl rfl ?_
        rintro _ _ ⟨rfl, rfl⟩
        refine ⟨Or.inr (Or.inr fun _ q => Or.inr (Or.inr q)), ?_⟩
        refine Goes.runS X [(.iconst 1, 1)] (S' := [.int (1 : Int32), .int (Int32.ofNat (own_dotN n 3 (own_cl c3)))]) (pc' := 43) rfl ?_
        refine Goes.if2 X (pc' := 48) (o := 5) (cd := .ne) (fun q211 => ?_) (fun q211 => ?_)
        · have h212 := own_sT (own_s2 _ (own_dotN_le _ _ _)) q211
          refine Goes.runS X [(.aload_n 0, 1), (.iconst 4, 1), (.iload_n 1, 1)] (S' := [.int (Int32.ofNat n), .int (4 : Int32), .ref b]) (pc' := 51) rfl ?_
          refine Goes.callS X 0 [0] [] (D_dot l Z a0 h0 hw b _ n 4 (by omega) (by decide) c4 rfl) (wd hw 60 rfl) (wd hw 61 rfl) (wd hw 4 rfl) (wd hw 62 rfl) pd_y_7 rfl (st := []) rfl rfl (G := []) rfl rfl ?_
          rintro _ _ ⟨rfl, rfl⟩
          refine ⟨Or.inr (Or.inr fun _ q => Or.inr (Or.inr q)), ?_⟩
          refine Goes.runS X [(.iconst 1, 1)] (S' := [.int (1 : Int32), .int (Int32.ofNat (own_dotN n 4 (own_cl c4)))]) (pc' := 55) rfl ?_
          refine Goes.if2 X (pc' := 60) (o := 5) (cd := .ne) (fun q213 => ?_) (fun q213 => ?_)
          · have h214 := own_sT (own_s2 _ (own_dotN_le _ _ _)) q213
            refine Goes.runS X [(.iconst (-1), 1)] (S' := [.int (-1 : Int32)]) (pc' := 61) rfl ?_
            refine Goes.retI X (by simp) rfl ?_
            exact ⟨by simp [own_fdN, own_fdI, h206, h208, h210, h212, h214], rfl⟩
          · have h215 := own_sF (own_s2 _ (own_dotN_le _ _ _)) q213
            have h215 := Classical.not_not.mp h215
            refine Goes.runS X [(.iconst 4, 1)] (S' := [.int (4 : Int32)]) (pc' := 59) rfl ?_
            refine Goes.retI X (by simp) rfl ?_
            exact ⟨by simp [own_fdN, own_fdI, h206, h208, h210, h212, h215], rfl⟩
        · have h216 := own_sF (own_s2 _ (own_dotN_le _ _ _)) q211
          have h216 := Classical.not_not.mp h216
          refine Goes.runS X [(.iconst 3, 1)] (S' := [.int (3 : Int32)]) (pc' := 47) rfl ?_
          refine Goes.retI X (by simp) rfl ?_
          exact ⟨by simp [own_fdN, own_fdI, h206, h208, h210, h216], rfl⟩
      · have h217 := own_sF (own_s2 _ (own_dotN_le _ _ _)) q209
        have h217 := Classical.not_not.mp h217
        refine Goes.runS X [(.iconst 2, 1)] (S' := [.int (2 : Int32)]) (pc' := 35) rfl ?_
        refine Goes.retI X (by simp) rfl ?_
        exact ⟨by simp [own_fdN, own_fdI, h206, h208, h217], rfl⟩
    · have h218 := own_sF (own_s2 _ (own_dotN_le _ _ _)) q207
      have h218 := Classical.not_not.mp h218
      refine Goes.runS X [(.iconst 1, 1)] (S' := [.int (1 : Int32)]) (pc' := 23) rfl ?_
      refine Goes.retI X (by simp) rfl ?_
      exact ⟨by simp [own_fdN, own_fdI, h206, h218], rfl⟩
  · have h219 := own_sF (own_s2 _ (own_dotN_le _ _ _)) q205
    have h219 := Classical.not_not.mp h219
    refine Goes.runS X [(.iconst 0, 1)] (S' := [.int (0 : Int32)]) (pc' := 11) rfl ?_
    refine Goes.retI X (by simp) rfl ?_
    exact ⟨by simp [own_fdN, own_fdI, h219], rfl⟩
def own_dec (st en : Int32) : Int32 := if en = 0 then (if st = 2 ∨ st = 3 ∨ st = 5 ∨ st = 8 then 1 else 0) else 0
set_option maxRecDepth 65536 in
set_option maxHeartbeats 40000000 in
theorem D_dec (l : Launch) (Z : State) (a0 : Array Value) (h0 : Heap) (hw : ∀ d ∈ tables_1, d.before a0 Z = true) (d : Addr) (st en : Int32) (v2 v3 v4 v5 v6 v7 v8 v9 v10 : Value) : Does l Z a0 h0 y_5 prog_28_method_3_code 1 (some .boolean) ({ frames := 0, cells := 0, slots := 0, locals := 0 } : Room) #[.ref d] [(d, o_Dig (.int st) (.int en) (v2) (v3) (v4) (v5) (v6) (v7) (v8) (v9) (v10))] (fun v F => v = some (.int (own_dec st en)) ∧ F = [(d, o_Dig (.int st) (.int en) (v2) (v3) (v4) (v5) (v6) (v7) (v8) (v9) (v10))]) := by
  refine Does.mk #[.val (.ref d)] (plainFor_of_name (by decide +kernel)) (fun m => by first | (simp [entryFrame, mkF, argsToLocals, Value.category]; done) | rfl) ?_
  intro p e s m args below meth c h X
  show Goes _ _ _ _ _ _ _ _ _ _ _ _ _ _ _ _ _ _ _ _ [(d, o_Dig (.int st) (.int en) (v2) (v3) (v4) (v5) (v6) (v7) (v8) (v9) (v10))] 0 0 (mkF m 0 #[.val (.ref d)] [])
  refine Goes.runS X [(.aload_n 0, 1)] (S' := [.ref d]) (pc' := 1) rfl ?_
  refine Goes.getF X 0 1 rfl rfl (wd hw 55 rfl) Via.refl ?_
  refine Goes.if1 X (pc' := 44) (o := 40) (cd := .ne) (fun q220 => ?_) (fun q220 => ?_)
  · have h221 : ¬ en = 0 := by simpa [ifCond.holds] using q220
    refine Goes.runS X [(.iconst 0, 1)] (S' := [.int (0 : Int32)]) (pc' := 45) rfl ?_
    refine Goes.retI X (by simp) rfl ?_
    exact ⟨by simp [own_dec, h221], rfl⟩
  · have h222 : en = 0 := by simpa [ifCond.holds] using q220
    refine Goes.runS X [(.aload_n 0, 1)] (S' := [.ref d]) (pc' := 8) rfl ?_
    refine Goes.getF X 0 0 rfl rfl (wd hw 15 rfl) Via.refl ?_
    refine Goes.runS X [(.iconst 2, 1)] (S' := [.int (2 : Int32), .int st]) (pc' := 12) rfl ?_
    refine Goes.if2 X (pc' := 40) (o := 28) (cd := .eq) (fun q223 => ?_) (fun q223 => ?_)
    · have h224 : st = (2 : Int32) := by simpa [if_icmp.holds] using q223
      refine Goes.runS X [(.iconst 1, 1)] (S' := [.int (1 : Int32)]) (pc' := 41) rfl ?_
      refine Goes.goto X (o := 4) (pc' := 45) ?_
      refine Goes.retI X (by simp) rfl ?_
      exact ⟨by simp [own_dec, h222, h224], rfl⟩
    · have h225 : ¬ st = (2 : Int32) := by simpa [if_icmp.holds] using q223
      refine Goes.runS X [(.aload_n 0, 1)] (S' := [.ref d]) (pc' := 16) rfl ?_
      refine Goes.getF X 0 0 rfl rfl (wd hw 15 rfl) Via.refl ?_
      refine Goes.runS X [(.iconst 3, 1)] (S' := [.int (3 : Int32), .int st]) (pc' := 20) rfl ?_
      refine Goes.if2 X (pc' := 40) (o := 20) (cd := .eq) (fun q226 => ?_) (fun q226 => ?_)
      · have h227 : st = (3 : Int32) := by simpa [if_icmp.holds] using q226
        refine Goes.runS X [(.iconst 1, 1)] (S' := [.int (1 : Int32)]) (pc' := 41) rfl ?_
        refine Goes.goto X (o := 4) (pc' := 45) ?_
        refine Goes.retI X (by simp) rfl ?_
        exact ⟨by simp [own_dec, h222, h225, h227], rfl⟩
      · have h228 : ¬ st = (3 : Int32) := by simpa [if_icmp.holds] using q226
        refine Goes.runS X [(.aload_n 0, 1)] (S' := [.ref d]) (pc' := 24) rfl ?_
        refine Goes.getF X 0 0 rfl rfl (wd hw 15 rfl) Via.refl ?_
        refine Goes.runS X [(.iconst 5, 1)] (S' := [.int (5 : Int32), .int st]) (pc' := 28) rfl ?_
        refine Goes.if2 X (pc' := 40) (o := 12) (cd := .eq) (fun q229 => ?_) (fun q229 => ?_)
        · have h230 : st = (5 : Int32) := by simpa [if_icmp.holds] using q229
          refine Goes.runS X [(.iconst 1, 1)] (S' := [.int (1 : Int32)]) (pc' := 41) rfl ?_
          refine Goes.goto X (o := 4) (pc' := 45) ?_
          refine Goes.retI X (by simp) rfl ?_
          exact ⟨by simp [own_dec, h222, h225, h228, h230], rfl⟩
        · have h231 : ¬ st = (5 : Int32) := by simpa [if_icmp.holds] using q229
          refine Goes.runS X [(.aload_n 0, 1)] (S' := [.ref d]) (pc' := 32) rfl ?_
          refine Goes.getF X 0 0 rfl rfl (wd hw 15 rfl) Via.refl ?_
          refine Goes.runS X [(.bipush 8, 2)] (S' := [.int (8 : Int32), .int st]) (pc' := 37) rfl ?_
          refine Goes.if2 X (pc' := 44) (o := 7) (cd := .ne) (fun q232 => ?_) (fun q232 => ?_)
          · have h233 : ¬ st = (8 : Int32) := by simpa [if_icmp.holds] using q232
            refine Goes.runS X [(.iconst 0, 1)] (S' := [.int (0 : Int32)]) (pc' := 45) rfl ?_
            refine Goes.retI X (by simp) rfl ?_
            exact ⟨by simp [own_dec, h222, h225, h228, h231, h233], rfl⟩
          · have h234 : st = (8 : Int32) := by simpa [if_icmp.holds] using q232
            refine Goes.runS X [(.iconst 1, 1)] (S' := [.int (1 : Int32)]) (pc' := 41) rfl ?_
            refine Goes.goto X (o := 4) (pc' := 45) ?_
            refine Goes.retI X (by simp) rfl ?_
            exact ⟨by simp [own_dec, h222, h225, h228, h231, h234], rfl⟩
def own_pl (st en : Int32) : Int32 := if own_dec st en = 0 then 0 else if st = 8 then 0 else 1
theorem own_dec01 (st en : Int32) : own_dec st en = 0 ∨ own_dec st en = 1 := by unfold own_dec; (repeat' split) <;> simp
set_option maxRecDepth 65536 in
set_option maxHeartbeats 40000000 in
theorem D_pl (l : Launch) (Z : State) (a0 : Array Value) (h0 : Heap) (hw : ∀ d ∈ tables_1, d.before a0 Z = true) (d : Addr) (st en : Int32) (v2 v3 v4 v5 v6 v7 v8 v9 v10 : Value) : Does l Z a0 h0 y_4 prog_28_method_4_code 1 (some .boolean) ({ frames := 1, cells := 0, slots := 0, locals := 12 } : Room) #[.ref d] [(d, o_Dig (.int st) (.int en) (v2) (v3) (v4) (v5) (v6) (v7) (v8) (v9) (v10))] (fun v F => v = some (.int (own_pl st en)) ∧ F = [(d, o_Dig (.int st) (.int en) (v2) (v3) (v4) (v5) (v6) (v7) (v8) (v9) (v10))]) := by
  refine Does.mk #[.val (.ref d)] (plainFor_of_name (by decide +kernel)) (fun m => by first | (simp [entryFrame, mkF, argsToLocals, Value.category]; done) | rfl) ?_
  intro p e s m args below meth c h X
  show Goes _ _ _ _ _ _ _ _ _ _ _ _ _ _ _ _ _ _ _ _ [(d, o_Dig (.int st) (.int en) (v2) (v3) (v4) (v5) (v6) (v7) (v8) (v9) (v10))] 0 0 (mkF m 0 #[.val (.ref d)] [])
  refine Goes.runS X [(.aload_n 0, 1)] (S' := [.ref d]) (pc' := 1) rfl ?_
  refine Goes.callV X 0 0 [0] [] rfl (D_dec l Z a0 h0 hw d st en v2 v3 v4 v5 v6 v7 v8 v9 v10) (wd hw 50 rfl) (wd hw 51 rfl) (wd hw 53 rfl) (wd hw 52 rfl) (own_nf X (wd hw 53 rfl)) (wd hw 8 rfl) (wd hw 54 rfl) pd_y_5 rfl (st := []) rfl rfl (G := []) rfl rfl ?_
  rintro _ _ ⟨rfl, rfl⟩
  refine ⟨Or.inr (Or.inr fun _ q => Or.inr (Or.inr q)), ?_⟩
  refine Goes.if1 X (pc' := 20) (o := 16) (cd := .eq) (fun q235 => ?_) (fun q235 => ?_)
  · have h236 : own_dec st en = 0 := by simpa [ifCond.holds] using q235
    refine Goes.runS X [(.iconst 0, 1)] (S' := [.int (0 : Int32)]) (pc' := 21) rfl ?_
    refine Goes.retI X (by simp) rfl ?_
    exact ⟨by rw [own_pl, if_pos h236], rfl⟩
  · have h237 : ¬ own_dec st en = 0 := by simpa [ifCond.holds] using q235
    refine Goes.runS X [(.aload_n 0, 1)] (S' := [.ref d]) (pc' := 8) rfl ?_
    refine Goes.getF X 0 0 rfl rfl (wd hw 15 rfl) Via.refl ?_
    refine Goes.runS X [(.bipush 8, 2)] (S' := [.int (8 : Int32), .int st]) (pc' := 13) rfl ?_
    refine Goes.if2 X (pc' := 20) (o := 7) (cd := .eq) (fun q238 => ?_) (fun q238 => ?_)
    · have h239 : st = 8 := by simpa [if_icmp.holds] using q238
      refine Goes.runS X [(.iconst 0, 1)] (S' := [.int (0 : Int32)]) (pc' := 21) rfl ?_
      refine Goes.retI X (by simp) rfl ?_
      exact ⟨by rw [own_pl, if_neg h237, if_pos h239], rfl⟩
    · have h240 : ¬ st = 8 := by simpa [if_icmp.holds] using q238
      refine Goes.runS X [(.iconst 1, 1)] (S' := [.int (1 : Int32)]) (pc' := 17) rfl ?_
      refine Goes.goto X (o := 4) (pc' := 21) ?_
      refine Goes.retI X (by simp) rfl ?_
      exact ⟨by rw [own_pl, if_neg h237, if_neg h240], rfl⟩
def own_nm (st : Int32) : Nat := if st = 2 then 3 else st.toInt.toNat
def own_nx (s cl : Nat) : Nat :=
  if s = 0 then (if cl = 0 then 1 else if cl = 4 then 3 else 9)
  else if s = 1 then (if cl = 4 then 3 else 9)
  else if s = 3 then (if cl = 4 then 3 else if cl = 2 then 4 else if cl = 3 then 6 else 9)
  else if s = 4 then (if cl = 4 then 5 else 9)
  else if s = 5 then (if cl = 4 then 5 else if cl = 3 then 6 else 9)
  else if s = 6 then (if cl ≤ 1 then 7 else if cl = 4 then 8 else 9)
  else (if cl = 4 then 8 else 9)
def own_sN (p : Nat × Nat) (cl : Nat) : Nat × Nat := if own_nx p.1 cl = 9 then (p.1, 1) else (own_nx p.1 cl, p.2)
def own_dN (p : Nat × Nat) : Nat := if p.2 = 0 then (if p.1 = 3 ∨ p.1 = 5 ∨ p.1 = 8 then 1 else 0) else 0
def own_Rel (st en : Int32) (p : Nat × Nat) : Prop := own_ok st ∧ own_nm st = p.1 ∧ ((en = 0 ∧ p.2 = 0) ∨ (¬ en = 0 ∧ p.2 = 1))
theorem own_Rel0 : own_Rel 0 0 (0, 0) := ⟨Or.inl rfl, rfl, Or.inl ⟨rfl, rfl⟩⟩
theorem own_nx_eq {st : Int32} (c : Int32) (h : own_ok st) : own_nx (own_nm st) (own_cl c) = own_nm (own_next st c) := by
  have e1 := own_cl0 c; have e2 := own_cl01 c; have e3 := own_cl2 c; have e4 := own_cl3 c; have e5 := own_cl4 c
  obtain ⟨d1, d2, d3, d4, d5, d6⟩ := own_d0
  have z : ∀ k : Nat, own_cl c = k → own_nx (own_nm st) k = own_nm (own_next st c) := by
    intro k hk
    rw [hk] at e1 e2 e3 e4 e5
    have hlt : k < 6 := hk ▸ own_cl_lt c
    unfold own_next
    match k, hlt with
    | 0, _ => obtain rfl := e1.mp rfl; rcases h with rfl | rfl | rfl | rfl | rfl | rfl | rfl | rfl | rfl <;> decide
    | 1, _ =>
      have : c = 43 := by rcases e2.mp (by decide) with q | q
                          · exact absurd (e1.mpr q) (by decide)
                          · exact q
      subst this; rcases h with rfl | rfl | rfl | rfl | rfl | rfl | rfl | rfl | rfl <;> decide
    | 2, _ => obtain rfl := e3.mp rfl; rcases h with rfl | rfl | rfl | rfl | rfl | rfl | rfl | rfl | rfl <;> decide
    | 3, _ => rcases e4.mp rfl with rfl | rfl <;> rcases h with rfl | rfl | rfl | rfl | rfl | rfl | rfl | rfl | rfl <;> decide
    | 4, _ =>
      have hd := e5.mp rfl
      have h1 : ¬ c = 45 := fun q => hd (q ▸ d1)
      have h2 : ¬ c = 43 := fun q => hd (q ▸ d2)
      by_cases h48 : c = 48
      · subst h48; rcases h with rfl | rfl | rfl | rfl | rfl | rfl | rfl | rfl | rfl <;> decide
      · rcases h with rfl | rfl | rfl | rfl | rfl | rfl | rfl | rfl | rfl <;> simp [hd, h1, h2, h48] <;> decide
    | 5, _ =>
      have hd : own_dig c = 0 := Classical.not_not.mp fun q => absurd (e5.mpr q) (by decide)
      have h1 : ¬ c = 45 := fun q => absurd (e1.mpr q) (by decide)
      have h2 : ¬ c = 43 := fun q => absurd (e2.mpr (Or.inr q)) (by decide)
      have h3 : ¬ c = 46 := fun q => absurd (e3.mpr q) (by decide)
      have h4 : ¬ c = 101 := fun q => absurd (e4.mpr (Or.inl q)) (by decide)
      have h5 : ¬ c = 69 := fun q => absurd (e4.mpr (Or.inr q)) (by decide)
      have h6 : ¬ c = 48 := fun q => by rw [q, d6] at hd; exact absurd hd (by decide)
      rcases h with rfl | rfl | rfl | rfl | rfl | rfl | rfl | rfl | rfl <;> simp [hd, h1, h2, h3, h4, h5, h6] <;> decide
  exact z _ rfl
theorem own_nm9 (st c : Int32) : own_nm (own_next st c) = 9 ↔ own_next st c = 9 := by
  rcases own_next_ok st c with q | ⟨-, q⟩
  · rw [q]; decide
  · rcases q with q | q | q | q | q | q | q | q | q <;> rw [q] <;> decide
theorem own_Rel.step {st en : Int32} {p : Nat × Nat} (c : Int32) (h : own_Rel st en p) : own_Rel (own_st st c) (own_en en st c) (own_sN p (own_cl c)) := by
  obtain ⟨h1, h2, h3⟩ := h
  refine ⟨own_st_ok c h1, ?_, ?_⟩
  · unfold own_st own_sN; rw [← h2, own_nx_eq c h1]
    by_cases q : own_next st c = 9
    · rw [if_pos q, if_pos ((own_nm9 st c).mpr q)]
    · rw [if_neg q, if_neg (fun z => q ((own_nm9 st c).mp z))]
  · unfold own_en own_sN; rw [← h2, own_nx_eq c h1]
    by_cases q : own_next st c = 9
    · rw [if_pos q, if_pos ((own_nm9 st c).mpr q)]; exact Or.inr ⟨by decide, rfl⟩
    · rw [if_neg q, if_neg (fun z => q ((own_nm9 st c).mp z))]; exact h3
theorem own_Rel.dec {st en : Int32} {p : Nat × Nat} (h : own_Rel st en p) : own_dec st en = Int32.ofNat (own_dN p) := by
  obtain ⟨h1, h2, h3⟩ := h
  unfold own_dec own_dN
  rcases h3 with ⟨a, b⟩ | ⟨a, b⟩
  · rw [if_pos a, if_pos b, ← h2]; rcases h1 with rfl | rfl | rfl | rfl | rfl | rfl | rfl | rfl | rfl <;> decide
  · rw [if_neg a, if_neg (by omega)]; decide
def own_run (L : List Nat) : Nat := own_dN (L.foldl own_sN (0, 0))
def own_all : Nat → (List Nat → Bool) → Bool
  | 0, f => f []
  | n + 1, f => own_all n fun L => f (0 :: L) && f (1 :: L) && f (2 :: L) && f (3 :: L) && f (4 :: L) && f (5 :: L)
theorem own_all.spec : ∀ (n : Nat) (f : List Nat → Bool), own_all n f = true → ∀ L : List Nat, L.length = n → (∀ x ∈ L, x < 6) → f L = true
  | 0, f, h, [], _, _ => h
  | n + 1, f, h, x :: L, hl, hx => by
    have q := own_all.spec n _ h L (by simpa using hl) fun y hy => hx y (List.mem_cons_of_mem _ hy)
    simp only [Bool.and_eq_true] at q
    obtain ⟨⟨⟨⟨⟨q0, q1⟩, q2⟩, q3⟩, q4⟩, q5⟩ := q
    have hlt := hx x (List.mem_cons_self ..)
    match x, hlt with
    | 0, _ => exact q0
    | 1, _ => exact q1
    | 2, _ => exact q2
    | 3, _ => exact q3
    | 4, _ => exact q4
    | 5, _ => exact q5
def own_pN (p : Nat × Nat) : Nat := if own_dN p = 0 then 0 else if p.1 = 8 then 0 else 1
theorem own_Rel.pl {st en : Int32} {p : Nat × Nat} (h : own_Rel st en p) : own_pl st en = Int32.ofNat (own_pN p) := by
  have e := h.dec
  obtain ⟨h1, h2, h3⟩ := h
  unfold own_pl own_pN
  have e8 : st = 8 ↔ p.1 = 8 := by rw [← h2]; rcases h1 with rfl | rfl | rfl | rfl | rfl | rfl | rfl | rfl | rfl <;> decide
  have e1 : own_dN p = 0 ∨ own_dN p = 1 := by unfold own_dN; (repeat' split) <;> simp
  rw [e]
  rcases e1 with q | q <;> rw [q] <;> by_cases z : p.1 = 8 <;> simp [z, e8]
def own_runP (L : List Nat) : Nat := own_pN (L.foldl own_sN (0, 0))
set_option maxRecDepth 1000000 in
theorem own_dec0 : own_all 0 (fun L => Nat.beq (own_runP L) (own_refN 0 L)) = true := by decide +kernel
theorem own_law0 (x : Nat) : own_pl 0 0 = Int32.ofNat (own_refN 0 []) := by
  have q := own_all.spec 0 _ own_dec0 [] rfl (fun x hx => nomatch hx)
  rw [own_Rel0.pl, ← Nat.eq_of_beq_eq_true q, own_runP] <;> simp only [List.foldl_cons, List.foldl_nil]
set_option maxRecDepth 1000000 in
theorem own_dec1 : own_all 1 (fun L => Nat.beq (own_runP L) (own_refN 1 L)) = true := by decide +kernel
theorem own_law1 (c0 : Int32) (x : Nat) : own_pl (own_st 0 c0) (own_en 0 0 c0) = Int32.ofNat (own_refN 1 [(own_cl c0)]) := by
  have q := own_all.spec 1 _ own_dec1 [(own_cl c0)] rfl (by intro x hx; simp only [List.mem_cons, List.not_mem_nil, or_false] at hx; subst hx; exact own_cl_lt _)
  rw [(own_Rel.step c0 own_Rel0).pl, ← Nat.eq_of_beq_eq_true q, own_runP] <;> simp only [List.foldl_cons, List.foldl_nil]
set_option maxRecDepth 1000000 in
theorem own_dec2 : own_all 2 (fun L => Nat.beq (own_runP L) (own_refN 2 L)) = true := by decide +kernel
theorem own_law2 (c0 c1 : Int32) (x : Nat) : own_pl (own_st (own_st 0 c0) c1) (own_en (own_en 0 0 c0) (own_st 0 c0) c1) = Int32.ofNat (own_refN 2 [(own_cl c0), (own_cl c1)]) := by
  have q := own_all.spec 2 _ own_dec2 [(own_cl c0), (own_cl c1)] rfl (by intro x hx; simp only [List.mem_cons, List.not_mem_nil, or_false] at hx; rcases hx with rfl | rfl <;> exact own_cl_lt _)
  rw [(own_Rel.step c1 (own_Rel.step c0 own_Rel0)).pl, ← Nat.eq_of_beq_eq_true q, own_runP] <;> simp only [List.foldl_cons, List.foldl_nil]
set_option maxRecDepth 1000000 in
theorem own_dec3 : own_all 3 (fun L => Nat.beq (own_runP L) (own_refN 3 L)) = true := by decide +kernel
theorem own_law3 (c0 c1 c2 : Int32) (x : Nat) : own_pl (own_st (own_st (own_st 0 c0) c1) c2) (own_en (own_en (own_en 0 0 c0) (own_st 0 c0) c1) (own_st (own_st 0 c0) c1) c2) = Int32.ofNat (own_refN 3 [(own_cl c0), (own_cl c1), (own_cl c2)]) := by
  have q := own_all.spec 3 _ own_dec3 [(own_cl c0), (own_cl c1), (own_cl c2)] rfl (by intro x hx; simp only [List.mem_cons, List.not_mem_nil, or_false] at hx; rcases hx with rfl | rfl | rfl <;> exact own_cl_lt _)
  rw [(own_Rel.step c2 (own_Rel.step c1 (own_Rel.step c0 own_Rel0))).pl, ← Nat.eq_of_beq_eq_true q, own_runP] <;> simp only [List.foldl_cons, List.foldl_nil]
set_option maxRecDepth 1000000 in
theorem own_dec4 : own_all 4 (fun L => Nat.beq (own_runP L) (own_refN 4 L)) = true := by decide +kernel
theorem own_law4 (c0 c1 c2 c3 : Int32) (x : Nat) : own_pl (own_st (own_st (own_st (own_st 0 c0) c1) c2) c3) (own_en (own_en (own_en (own_en 0 0 c0) (own_st 0 c0) c1) (own_st (own_st 0 c0) c1) c2) (own_st (own_st (own_st 0 c0) c1) c2) c3) = Int32.ofNat (own_refN 4 [(own_cl c0), (own_cl c1), (own_cl c2), (own_cl c3)]) := by
  have q := own_all.spec 4 _ own_dec4 [(own_cl c0), (own_cl c1), (own_cl c2), (own_cl c3)] rfl (by intro x hx; simp only [List.mem_cons, List.not_mem_nil, or_false] at hx; rcases hx with rfl | rfl | rfl | rfl <;> exact own_cl_lt _)
  rw [(own_Rel.step c3 (own_Rel.step c2 (own_Rel.step c1 (own_Rel.step c0 own_Rel0)))).pl, ← Nat.eq_of_beq_eq_true q, own_runP] <;> simp only [List.foldl_cons, List.foldl_nil]
set_option maxRecDepth 1000000 in
theorem own_dec5 : own_all 5 (fun L => Nat.beq (own_runP L) (own_refN 5 L)) = true := by decide +kernel
theorem own_law5 (c0 c1 c2 c3 c4 : Int32) (x : Nat) : own_pl (own_st (own_st (own_st (own_st (own_st 0 c0) c1) c2) c3) c4) (own_en (own_en (own_en (own_en (own_en 0 0 c0) (own_st 0 c0) c1) (own_st (own_st 0 c0) c1) c2) (own_st (own_st (own_st 0 c0) c1) c2) c3) (own_st (own_st (own_st (own_st 0 c0) c1) c2) c3) c4) = Int32.ofNat (own_refN 5 [(own_cl c0), (own_cl c1), (own_cl c2), (own_cl c3), (own_cl c4)]) := by
  have q := own_all.spec 5 _ own_dec5 [(own_cl c0), (own_cl c1), (own_cl c2), (own_cl c3), (own_cl c4)] rfl (by intro x hx; simp only [List.mem_cons, List.not_mem_nil, or_false] at hx; rcases hx with rfl | rfl | rfl | rfl | rfl <;> exact own_cl_lt _)
  rw [(own_Rel.step c4 (own_Rel.step c3 (own_Rel.step c2 (own_Rel.step c1 (own_Rel.step c0 own_Rel0))))).pl, ← Nat.eq_of_beq_eq_true q, own_runP] <;> simp only [List.foldl_cons, List.foldl_nil]
theorem own_case6 (r : Int32) (h0 : 0 ≤ r.toInt) (h1 : r.toInt < (6 : Int32).toInt) : r = 0 ∨ r = 1 ∨ r = 2 ∨ r = 3 ∨ r = 4 ∨ r = 5 := by
  have h1' : r.toInt < 6 := h1
  have : r.toInt = 0 ∨ r.toInt = 1 ∨ r.toInt = 2 ∨ r.toInt = 3 ∨ r.toInt = 4 ∨ r.toInt = 5 := by omega
  rcases this with h | h | h | h | h | h <;> simp [← Int32.toInt_inj, h]
set_option maxRecDepth 65536 in
set_option maxHeartbeats 40000000 in
theorem D_law (l : Launch) (Z : State) (a0 : Array Value) (h0 : Heap) (hw : ∀ d ∈ tables_1, d.before a0 Z = true) (cs : Int32) (hCS : Sta Z h0 "java/lang/String" "COMPACT_STRINGS" "Z" (.int cs)) (hcs : ¬ cs = 0) (sio : Value) (hSIO : Sta Z h0 "jdk/internal/util/Preconditions" "SIOOBE_FORMATTER" "Ljava/util/function/BiFunction;" sio) (hsio : sio.category = 1) (p0 p1 p2 p3 p4 p5 : Int32) : DoesW l Z a0 own_EL h0 x code maxLocals ret room_1 #[.int p0, .int p1, .int p2, .int p3, .int p4, .int p5] [] (fun v F => v = some (.int 1)) := by
  refine DoesW.mk #[.val (.int p0), .val (.int p1), .val (.int p2), .val (.int p3), .val (.int p4), .val (.int p5), .unset, .unset, .unset, .unset, .unset, .unset, .unset, .unset, .unset] (plainFor_of_name (by decide +kernel)) (fun m => by first | (simp [entryFrame, mkF, argsToLocals, Value.category, maxLocals]; done) | rfl) ?_
  intro p e s0 vmS vm0 k0 m args below meth c h X
  rcases own_case6 _ (own_rem p0 6 (by decide)).1 (own_rem p0 6 (by decide)).2 with e0 | e1 | e2 | e3 | e4 | e5
  · refine Goes.runS X [(.iload_n 0, 1)] (S' := [.int p0]) (pc' := 1) rfl ?_
    refine Goes.ldcI X (wd hw 0 rfl) ?_
    refine Goes.run X [(.iand, 1), (.bipush 6, 2), (.irem, 1), (.istore 6, 2)] (L' := #[.val (.int p0), .val (.int p1), .val (.int p2), .val (.int p3), .val (.int p4), .val (.int p5), .val (.int ((p0 &&& (2147483647 : Int32)) % (6 : Int32))), .unset, .unset, .unset, .unset, .unset, .unset, .unset, .unset]) (S' := []) (pc' := 9) rfl ?_
    rw [e0]
    show Goes _ _ _ _ _ _ _ _ _ _ _ _ _ _ _ _ _ _ _ _ [] 0 0 (mkF m 9 #[.val (.int p0), .val (.int p1), .val (.int p2), .val (.int p3), .val (.int p4), .val (.int p5), .val (.int (0 : Int32)), .unset, .unset, .unset, .unset, .unset, .unset, .unset, .unset] [])
    refine Goes.runS X [(.iconst 5, 1)] (S' := [.int (5 : Int32)]) (pc' := 10) rfl ?_
    refine Goes.newarr X (aty := .char) "[C" 5 5 (wd hw 1 rfl) (by decide +kernel) (by decide) (by decide) (fun a241 => ?_)
    refine Goes.run X [(.astore 7, 2), (.aload 7, 2), (.iconst 0, 1), (.iload_n 1, 1)] (L' := #[.val (.int p0), .val (.int p1), .val (.int p2), .val (.int p3), .val (.int p4), .val (.int p5), .val (.int (0 : Int32)), .val (.ref a241), .unset, .unset, .unset, .unset, .unset, .unset, .unset]) (S' := [.int p1, .int (0 : Int32), .ref a241]) (pc' := 18) rfl ?_
    refine Goes.callSW X 2 [] [0] (D_pick l Z a0 h0 hw cs hCS hcs sio hSIO hsio p1) (wd hw 2 rfl) (wd hw 3 rfl) (wd hw 4 rfl) (wd hw 5 rfl) pd_y_0 rfl (st := [.int (0 : Int32), .ref a241]) rfl rfl (G := [(a241, ar "[C" .char [.int 0, .int 0, .int 0, .int 0, .int 0])]) rfl rfl ?_
    rintro _ _ vm0 k0 ⟨c242, rfl, h0c242, h1c242, rfl⟩ X
    refine ⟨Or.inr (Or.inr fun _ q => Or.inr (Or.inr q)), ?_⟩
    refine Goes.castore X 0 0 rfl (by decide) (by decide) (Nat.le_of_ble_eq_true rfl) ?_
    rw [own_nca h0c242 h1c242]
    refine Goes.runS X [(.aload 7, 2), (.iconst 1, 1), (.iload_n 2, 1)] (S' := [.int p2, .int (1 : Int32), .ref a241]) (pc' := 26) rfl ?_
    refine Goes.callSW X 2 [] [0] (D_pick l Z a0 h0 hw cs hCS hcs sio hSIO hsio p2) (wd hw 2 rfl) (wd hw 3 rfl) (wd hw 4 rfl) (wd hw 5 rfl) pd_y_0 rfl (st := [.int (1 : Int32), .ref a241]) rfl rfl (G := [(a241, ar "[C" .char [.int c242, .int 0, .int 0, .int 0, .int 0])]) rfl rfl ?_
    rintro _ _ vm0 k0 ⟨c243, rfl, h0c243, h1c243, rfl⟩ X
    refine ⟨Or.inr (Or.inr fun _ q => Or.inr (Or.inr q)), ?_⟩
    refine Goes.castore X 0 1 rfl (by decide) (by decide) (Nat.le_of_ble_eq_true rfl) ?_
    rw [own_nca h0c243 h1c243]
    refine Goes.runS X [(.aload 7, 2), (.iconst 2, 1), (.iload_n 3, 1)] (S' := [.int p3, .int (2 : Int32), .ref a241]) (pc' := 34) rfl ?_
    refine Goes.callSW X 2 [] [0] (D_pick l Z a0 h0 hw cs hCS hcs sio hSIO hsio p3) (wd hw 2 rfl) (wd hw 3 rfl) (wd hw 4 rfl) (wd hw 5 rfl) pd_y_0 rfl (st := [.int (2 : Int32), .ref a241]) rfl rfl (G := [(a241, ar "[C" .char [.int c242, .int c243, .int 0, .int 0, .int 0])]) rfl rfl ?_
    rintro _ _ vm0 k0 ⟨c244, rfl, h0c244, h1c244, rfl⟩ X
    refine ⟨Or.inr (Or.inr fun _ q => Or.inr (Or.inr q)), ?_⟩
    refine Goes.castore X 0 2 rfl (by decide) (by decide) (Nat.le_of_ble_eq_true rfl) ?_
    rw [own_nca h0c244 h1c244]
    refine Goes.runS X [(.aload 7, 2), (.iconst 3, 1), (.iload 4, 2)] (S' := [.int p4, .int (3 : Int32), .ref a241]) (pc' := 43) rfl ?_
    refine Goes.callSW X 2 [] [0] (D_pick l Z a0 h0 hw cs hCS hcs sio hSIO hsio p4) (wd hw 2 rfl) (wd hw 3 rfl) (wd hw 4 rfl) (wd hw 5 rfl) pd_y_0 rfl (st := [.int (3 : Int32), .ref a241]) rfl rfl (G := [(a241, ar "[C" .char [.int c242, .int c243, .int c244, .int 0, .int 0])]) rfl rfl ?_
    rintro _ _ vm0 k0 ⟨c245, rfl, h0c245, h1c245, rfl⟩ X
    refine ⟨Or.inr (Or.inr fun _ q => Or.inr (Or.inr q)), ?_⟩
    refine Goes.castore X 0 3 rfl (by decide) (by decide) (Nat.le_of_ble_eq_true rfl) ?_
    rw [own_nca h0c245 h1c245]
    refine Goes.runS X [(.aload 7, 2), (.iconst 4, 1), (.iload 5, 2)] (S' := [.int p5, .int (4 : Int32), .ref a241]) (pc' := 52) rfl ?_
    refine Goes.callSW X 2 [] [0] (D_pick l Z a0 h0 hw cs hCS hcs sio hSIO hsio p5) (wd hw 2 rfl) (wd hw 3 rfl) (wd hw 4 rfl) (wd hw 5 rfl) pd_y_0 rfl (st := [.int (4 : Int32), .ref a241]) rfl rfl (G := [(a241, ar "[C" .char [.int c242, .int c243, .int c244, .int c245, .int 0])]) rfl rfl ?_
    rintro _ _ vm0 k0 ⟨c246, rfl, h0c246, h1c246, rfl⟩ X
    refine ⟨Or.inr (Or.inr fun _ q => Or.inr (Or.inr q)), ?_⟩
    refine Goes.castore X 0 4 rfl (by decide) (by decide) (Nat.le_of_ble_eq_true rfl) ?_
    rw [own_nca h0c246 h1c246]
    refine Goes.new X _ (wd hw 6 rfl) (wd hw 7 rfl) (wd hw 8 rfl) (new_Dig hw) (fun a247 => ?_)
    refine Goes.runS X [(.dup, 1), (.iconst 0, 1)] (S' := [.int (0 : Int32), .ref a247, .ref a247]) (pc' := 61) rfl ?_
    refine Goes.callN X 1 [1] [0] (D_dctor l Z a0 h0 hw cs hCS hcs a247) rfl (wd hw 9 rfl) (wd hw 10 rfl) (wd hw 8 rfl) (wd hw 11 rfl) pd_y_1 rfl (st := [.ref a247]) rfl rfl (G := [(a241, ar "[C" .char [.int c242, .int c243, .int c244, .int c245, .int c246])]) rfl rfl ?_
    rintro _ _ ⟨u248, b249, h250, b251, rfl, rfl⟩
    refine ⟨Or.inl rfl, ?_⟩
    refine Goes.run X [(.astore 8, 2), (.iload 6, 2)] (L' := #[.val (.int p0), .val (.int p1), .val (.int p2), .val (.int p3), .val (.int p4), .val (.int p5), .val (.int (0 : Int32)), .val (.ref a241), .val (.ref a247), .unset, .unset, .unset, .unset, .unset, .unset]) (S' := [.int (0 : Int32)]) (pc' := 68) rfl ?_
    refine Goes.if1 X (pc' := 81) (o := 13) (cd := .le) (fun _ => ?_) (fun q => absurd q (by decide))
    refine Goes.runS X [(.iload 6, 2), (.iconst 1, 1)] (S' := [.int (1 : Int32), .int (0 : Int32)]) (pc' := 84) rfl ?_
    refine Goes.if2 X (pc' := 97) (o := 13) (cd := .le) (fun _ => ?_) (fun q => absurd q (by decide))
    refine Goes.runS X [(.iload 6, 2), (.iconst 2, 1)] (S' := [.int (2 : Int32), .int (0 : Int32)]) (pc' := 100) rfl ?_
    refine Goes.if2 X (pc' := 113) (o := 13) (cd := .le) (fun _ => ?_) (fun q => absurd q (by decide))
    refine Goes.runS X [(.iload 6, 2), (.iconst 3, 1)] (S' := [.int (3 : Int32), .int (0 : Int32)]) (pc' := 116) rfl ?_
    refine Goes.if2 X (pc' := 129) (o := 13) (cd := .le) (fun _ => ?_) (fun q => absurd q (by decide))
    refine Goes.runS X [(.iload 6, 2), (.iconst 4, 1)] (S' := [.int (4 : Int32), .int (0 : Int32)]) (pc' := 132) rfl ?_
    refine Goes.if2 X (pc' := 145) (o := 13) (cd := .le) (fun _ => ?_) (fun q => absurd q (by decide))
    refine Goes.runS X [(.aload 8, 2)] (S' := [.ref a247]) (pc' := 147) rfl ?_
    refine Goes.callV X 0 0 [0] [1, 2, 3, 4] rfl (D_pl l Z a0 h0 hw a247 0 0 (.long 0) (.long 0) (.int 0) (.int 0) (.long 0) (.ref u248) (.ref h250) (.int 0) (.int 0)) (wd hw 45 rfl) (wd hw 46 rfl) (wd hw 48 rfl) (wd hw 47 rfl) (own_nf X (wd hw 48 rfl)) (wd hw 8 rfl) (wd hw 49 rfl) pd_y_4 rfl (st := []) rfl rfl (G := [(u248, o_SB (.ref b249) (.int 0) (.int 0)), (b249, oBs (List.replicate 16 (.int 0))), (h250, o_SB (.ref b251) (.int 0) (.int 0)), (a241, ar "[C" .char [.int c242, .int c243, .int c244, .int c245, .int c246])]) rfl rfl ?_
    rintro _ _ ⟨rfl, rfl⟩
    refine ⟨Or.inr (Or.inr fun _ q => Or.inr (Or.inr q)), ?_⟩
    obtain ⟨pv, hpv⟩ : ∃ z, own_pl 0 0 = z := ⟨_, rfl⟩
    rw [hpv]
    rw [own_law0  0] at hpv
    refine Goes.sub [4] (G := [(a241, ar "[C" .char [.int c242, .int c243, .int c244, .int c245, .int c246])]) rfl ?_
    refine Goes.run X [(.istore 9, 2), (.iload 6, 2)] (L' := #[.val (.int p0), .val (.int p1), .val (.int p2), .val (.int p3), .val (.int p4), .val (.int p5), .val (.int (0 : Int32)), .val (.ref a241), .val (.ref a247), .val (.int pv), .unset, .unset, .unset, .unset, .unset]) (S' := [.int (0 : Int32)]) (pc' := 154) rfl ?_
    refine Goes.if1 X (pc' := 170) (o := 16) (cd := .le) (fun _ => ?_) (fun q => absurd q (by decide))
    refine Goes.run X [(.iconst 0, 1), (.istore 10, 2), (.aload 7, 2), (.iconst 0, 1), (.iload 6, 2), (.iload 10, 2)] (L' := #[.val (.int p0), .val (.int p1), .val (.int p2), .val (.int p3), .val (.int p4), .val (.int p5), .val (.int (0 : Int32)), .val (.ref a241), .val (.ref a247), .val (.int pv), .val (.int (0 : Int32)), .unset, .unset, .unset, .unset]) (S' := [.int (0 : Int32), .int (0 : Int32), .int (0 : Int32), .ref a241]) (pc' := 180) rfl ?_
    have ha : own_refN 0 [] = own_refA 0 0 [] := rfl
    refine Goes.callS X 0 [0] [] (D_bad l Z a0 h0 hw a241 _ 0 0 0 (by decide) (by decide) (by decide) c242 rfl) (wd hw 57 rfl) (wd hw 58 rfl) (wd hw 4 rfl) (wd hw 59 rfl) pd_y_6 rfl (st := []) rfl rfl (G := []) rfl rfl ?_
    rintro _ _ ⟨rfl, rfl⟩
    refine ⟨Or.inr (Or.inr fun _ q => Or.inr (Or.inr q)), ?_⟩
    refine Goes.runS X [(.aload 7, 2), (.iconst 1, 1), (.iload 6, 2), (.iload 10, 2)] (S' := [.int (0 : Int32), .int (0 : Int32), .int (1 : Int32), .ref a241, .int (Int32.ofNat (own_badN 0 0 0 (own_cl c242)))]) (pc' := 190) rfl ?_
    refine Goes.callS X 1 [0] [] (D_bad l Z a0 h0 hw a241 _ 0 0 1 (by decide) (by decide) (by decide) c243 rfl) (wd hw 57 rfl) (wd hw 58 rfl) (wd hw 4 rfl) (wd hw 59 rfl) pd_y_6 rfl (st := [.int (Int32.ofNat (own_badN 0 0 0 (own_cl c242)))]) rfl rfl (G := []) rfl rfl ?_
    rintro _ _ ⟨rfl, rfl⟩
    refine ⟨Or.inr (Or.inr fun _ q => Or.inr (Or.inr q)), ?_⟩
    refine Goes.runS X [(.iadd, 1), (.aload 7, 2), (.iconst 2, 1), (.iload 6, 2), (.iload 10, 2)] (S' := [.int (0 : Int32), .int (0 : Int32), .int (2 : Int32), .ref a241, .int ((Int32.ofNat (own_badN 0 0 0 (own_cl c242))) + (Int32.ofNat (own_badN 0 0 1 (own_cl c243))))]) (pc' := 201) rfl ?_
    refine Goes.callS X 1 [0] [] (D_bad l Z a0 h0 hw a241 _ 0 0 2 (by decide) (by decide) (by decide) c244 rfl) (wd hw 57 rfl) (wd hw 58 rfl) (wd hw 4 rfl) (wd hw 59 rfl) pd_y_6 rfl (st := [.int ((Int32.ofNat (own_badN 0 0 0 (own_cl c242))) + (Int32.ofNat (own_badN 0 0 1 (own_cl c243))))]) rfl rfl (G := []) rfl rfl ?_
    rintro _ _ ⟨rfl, rfl⟩
    refine ⟨Or.inr (Or.inr fun _ q => Or.inr (Or.inr q)), ?_⟩
    refine Goes.runS X [(.iadd, 1), (.aload 7, 2), (.iconst 3, 1), (.iload 6, 2), (.iload 10, 2)] (S' := [.int (0 : Int32), .int (0 : Int32), .int (3 : Int32), .ref a241, .int (((Int32.ofNat (own_badN 0 0 0 (own_cl c242))) + (Int32.ofNat (own_badN 0 0 1 (own_cl c243)))) + (Int32.ofNat (own_badN 0 0 2 (own_cl c244))))]) (pc' := 212) rfl ?_
    refine Goes.callS X 1 [0] [] (D_bad l Z a0 h0 hw a241 _ 0 0 3 (by decide) (by decide) (by decide) c245 rfl) (wd hw 57 rfl) (wd hw 58 rfl) (wd hw 4 rfl) (wd hw 59 rfl) pd_y_6 rfl (st := [.int (((Int32.ofNat (own_badN 0 0 0 (own_cl c242))) + (Int32.ofNat (own_badN 0 0 1 (own_cl c243)))) + (Int32.ofNat (own_badN 0 0 2 (own_cl c244))))]) rfl rfl (G := []) rfl rfl ?_
    rintro _ _ ⟨rfl, rfl⟩
    refine ⟨Or.inr (Or.inr fun _ q => Or.inr (Or.inr q)), ?_⟩
    refine Goes.runS X [(.iadd, 1), (.aload 7, 2), (.iconst 4, 1), (.iload 6, 2), (.iload 10, 2)] (S' := [.int (0 : Int32), .int (0 : Int32), .int (4 : Int32), .ref a241, .int ((((Int32.ofNat (own_badN 0 0 0 (own_cl c242))) + (Int32.ofNat (own_badN 0 0 1 (own_cl c243)))) + (Int32.ofNat (own_badN 0 0 2 (own_cl c244)))) + (Int32.ofNat (own_badN 0 0 3 (own_cl c245))))]) (pc' := 223) rfl ?_
    refine Goes.callS X 1 [0] [] (D_bad l Z a0 h0 hw a241 _ 0 0 4 (by decide) (by decide) (by decide) c246 rfl) (wd hw 57 rfl) (wd hw 58 rfl) (wd hw 4 rfl) (wd hw 59 rfl) pd_y_6 rfl (st := [.int ((((Int32.ofNat (own_badN 0 0 0 (own_cl c242))) + (Int32.ofNat (own_badN 0 0 1 (own_cl c243)))) + (Int32.ofNat (own_badN 0 0 2 (own_cl c244)))) + (Int32.ofNat (own_badN 0 0 3 (own_cl c245))))]) rfl rfl (G := []) rfl rfl ?_
    rintro _ _ ⟨rfl, rfl⟩
    refine ⟨Or.inr (Or.inr fun _ q => Or.inr (Or.inr q)), ?_⟩
    refine Goes.runS X [(.iadd, 1)] (S' := [.int (((((Int32.ofNat (own_badN 0 0 0 (own_cl c242))) + (Int32.ofNat (own_badN 0 0 1 (own_cl c243)))) + (Int32.ofNat (own_badN 0 0 2 (own_cl c244)))) + (Int32.ofNat (own_badN 0 0 3 (own_cl c245)))) + (Int32.ofNat (own_badN 0 0 4 (own_cl c246))))]) (pc' := 227) rfl ?_
    obtain ⟨bad, hbad⟩ : ∃ x, own_badL 0 0 [] = x := ⟨_, rfl⟩
    have lbad : bad ≤ 9 := hbad ▸ own_badL_le _ _ _
    rw [show (((((Int32.ofNat (own_badN 0 0 0 (own_cl c242))) + (Int32.ofNat (own_badN 0 0 1 (own_cl c243)))) + (Int32.ofNat (own_badN 0 0 2 (own_cl c244)))) + (Int32.ofNat (own_badN 0 0 3 (own_cl c245)))) + (Int32.ofNat (own_badN 0 0 4 (own_cl c246)))) = Int32.ofNat bad from by rw [← hbad]; simp only [← Int32.ofNat_add]; rfl]
    show Goes _ _ _ _ _ _ _ _ _ _ _ _ _ _ _ _ _ _ _ _ [(a241, ar "[C" .char [.int c242, .int c243, .int c244, .int c245, .int c246])] 16 399 (mkF m 227 #[.val (.int p0), .val (.int p1), .val (.int p2), .val (.int p3), .val (.int p4), .val (.int p5), .val (.int (0 : Int32)), .val (.ref a241), .val (.ref a247), .val (.int pv), .val (.int (0 : Int32)), .unset, .unset, .unset, .unset] [.int (Int32.ofNat bad)])
    refine Goes.run X [(.istore 11, 2), (.aload 7, 2), (.iconst 0, 1), (.iload 6, 2)] (L' := #[.val (.int p0), .val (.int p1), .val (.int p2), .val (.int p3), .val (.int p4), .val (.int p5), .val (.int (0 : Int32)), .val (.ref a241), .val (.ref a247), .val (.int pv), .val (.int (0 : Int32)), .val (.int (Int32.ofNat bad)), .unset, .unset, .unset]) (S' := [.int (0 : Int32), .int (0 : Int32), .ref a241]) (pc' := 234) rfl ?_
    refine Goes.callS X 0 [0] [] (D_dot l Z a0 h0 hw a241 _ 0 0 (by omega) (by decide) c242 rfl) (wd hw 60 rfl) (wd hw 61 rfl) (wd hw 4 rfl) (wd hw 62 rfl) pd_y_7 rfl (st := []) rfl rfl (G := []) rfl rfl ?_
    rintro _ _ ⟨rfl, rfl⟩
    refine ⟨Or.inr (Or.inr fun _ q => Or.inr (Or.inr q)), ?_⟩
    refine Goes.runS X [(.aload 7, 2), (.iconst 1, 1), (.iload 6, 2)] (S' := [.int (0 : Int32), .int (1 : Int32), .ref a241, .int (Int32.ofNat (own_dotN 0 0 (own_cl c242)))]) (pc' := 242) rfl ?_
    refine Goes.callS X 1 [0] [] (D_dot l Z a0 h0 hw a241 _ 0 1 (by omega) (by decide) c243 rfl) (wd hw 60 rfl) (wd hw 61 rfl) (wd hw 4 rfl) (wd hw 62 rfl) pd_y_7 rfl (st := [.int (Int32.ofNat (own_dotN 0 0 (own_cl c242)))]) rfl rfl (G := []) rfl rfl ?_
    rintro _ _ ⟨rfl, rfl⟩
    refine ⟨Or.inr (Or.inr fun _ q => Or.inr (Or.inr q)), ?_⟩
    refine Goes.runS X [(.iadd, 1), (.aload 7, 2), (.iconst 2, 1), (.iload 6, 2)] (S' := [.int (0 : Int32), .int (2 : Int32), .ref a241, .int ((Int32.ofNat (own_dotN 0 0 (own_cl c242))) + (Int32.ofNat (own_dotN 0 1 (own_cl c243))))]) (pc' := 251) rfl ?_
    refine Goes.callS X 1 [0] [] (D_dot l Z a0 h0 hw a241 _ 0 2 (by omega) (by decide) c244 rfl) (wd hw 60 rfl) (wd hw 61 rfl) (wd hw 4 rfl) (wd hw 62 rfl) pd_y_7 rfl (st := [.int ((Int32.ofNat (own_dotN 0 0 (own_cl c242))) + (Int32.ofNat (own_dotN 0 1 (own_cl c243))))]) rfl rfl (G := []) rfl rfl ?_
    rintro _ _ ⟨rfl, rfl⟩
    refine ⟨Or.inr (Or.inr fun _ q => Or.inr (Or.inr q)), ?_⟩
    refine Goes.runS X [(.iadd, 1), (.aload 7, 2), (.iconst 3, 1), (.iload 6, 2)] (S' := [.int (0 : Int32), .int (3 : Int32), .ref a241, .int (((Int32.ofNat (own_dotN 0 0 (own_cl c242))) + (Int32.ofNat (own_dotN 0 1 (own_cl c243)))) + (Int32.ofNat (own_dotN 0 2 (own_cl c244))))]) (pc' := 260) rfl ?_
    refine Goes.callS X 1 [0] [] (D_dot l Z a0 h0 hw a241 _ 0 3 (by omega) (by decide) c245 rfl) (wd hw 60 rfl) (wd hw 61 rfl) (wd hw 4 rfl) (wd hw 62 rfl) pd_y_7 rfl (st := [.int (((Int32.ofNat (own_dotN 0 0 (own_cl c242))) + (Int32.ofNat (own_dotN 0 1 (own_cl c243)))) + (Int32.ofNat (own_dotN 0 2 (own_cl c244))))]) rfl rfl (G := []) rfl rfl ?_
    rintro _ _ ⟨rfl, rfl⟩
    refine ⟨Or.inr (Or.inr fun _ q => Or.inr (Or.inr q)), ?_⟩
    refine Goes.runS X [(.iadd, 1), (.aload 7, 2), (.iconst 4, 1), (.iload 6, 2)] (S' := [.int (0 : Int32), .int (4 : Int32), .ref a241, .int ((((Int32.ofNat (own_dotN 0 0 (own_cl c242))) + (Int32.ofNat (own_dotN 0 1 (own_cl c243)))) + (Int32.ofNat (own_dotN 0 2 (own_cl c244)))) + (Int32.ofNat (own_dotN 0 3 (own_cl c245))))]) (pc' := 269) rfl ?_
    refine Goes.callS X 1 [0] [] (D_dot l Z a0 h0 hw a241 _ 0 4 (by omega) (by decide) c246 rfl) (wd hw 60 rfl) (wd hw 61 rfl) (wd hw 4 rfl) (wd hw 62 rfl) pd_y_7 rfl (st := [.int ((((Int32.ofNat (own_dotN 0 0 (own_cl c242))) + (Int32.ofNat (own_dotN 0 1 (own_cl c243)))) + (Int32.ofNat (own_dotN 0 2 (own_cl c244)))) + (Int32.ofNat (own_dotN 0 3 (own_cl c245))))]) rfl rfl (G := []) rfl rfl ?_
    rintro _ _ ⟨rfl, rfl⟩
    refine ⟨Or.inr (Or.inr fun _ q => Or.inr (Or.inr q)), ?_⟩
    refine Goes.runS X [(.iadd, 1)] (S' := [.int (((((Int32.ofNat (own_dotN 0 0 (own_cl c242))) + (Int32.ofNat (own_dotN 0 1 (own_cl c243)))) + (Int32.ofNat (own_dotN 0 2 (own_cl c244)))) + (Int32.ofNat (own_dotN 0 3 (own_cl c245)))) + (Int32.ofNat (own_dotN 0 4 (own_cl c246))))]) (pc' := 273) rfl ?_
    obtain ⟨dots, hdots⟩ : ∃ x, own_dotL 0 [] = x := ⟨_, rfl⟩
    have ldots : dots ≤ 9 := hdots ▸ own_dotL_le _ _
    rw [show (((((Int32.ofNat (own_dotN 0 0 (own_cl c242))) + (Int32.ofNat (own_dotN 0 1 (own_cl c243)))) + (Int32.ofNat (own_dotN 0 2 (own_cl c244)))) + (Int32.ofNat (own_dotN 0 3 (own_cl c245)))) + (Int32.ofNat (own_dotN 0 4 (own_cl c246)))) = Int32.ofNat dots from by rw [← hdots]; simp only [← Int32.ofNat_add]; rfl]
    show Goes _ _ _ _ _ _ _ _ _ _ _ _ _ _ _ _ _ _ _ _ [(a241, ar "[C" .char [.int c242, .int c243, .int c244, .int c245, .int c246])] 16 399 (mkF m 273 #[.val (.int p0), .val (.int p1), .val (.int p2), .val (.int p3), .val (.int p4), .val (.int p5), .val (.int (0 : Int32)), .val (.ref a241), .val (.ref a247), .val (.int pv), .val (.int (0 : Int32)), .val (.int (Int32.ofNat bad)), .unset, .unset, .unset] [.int (Int32.ofNat dots)])
    refine Goes.run X [(.istore 12, 2), (.aload 7, 2), (.iload 6, 2)] (L' := #[.val (.int p0), .val (.int p1), .val (.int p2), .val (.int p3), .val (.int p4), .val (.int p5), .val (.int (0 : Int32)), .val (.ref a241), .val (.ref a247), .val (.int pv), .val (.int (0 : Int32)), .val (.int (Int32.ofNat bad)), .val (.int (Int32.ofNat dots)), .unset, .unset]) (S' := [.int (0 : Int32), .ref a241]) (pc' := 279) rfl ?_
    refine Goes.callS X 0 [0] [] (D_fd l Z a0 h0 hw a241 c242 c243 c244 c245 c246 0 (by decide)) (wd hw 63 rfl) (wd hw 64 rfl) (wd hw 4 rfl) (wd hw 65 rfl) pd_y_8 rfl (st := []) rfl rfl (G := []) rfl rfl ?_
    rintro _ _ ⟨rfl, rfl⟩
    refine ⟨Or.inr (Or.inr fun _ q => Or.inr (Or.inr q)), ?_⟩
    obtain ⟨fd, hfd⟩ : ∃ x, own_fdL 0 [] = x := ⟨_, rfl⟩
    rw [show own_fdN 0 (own_cl c242) (own_cl c243) (own_cl c244) (own_cl c245) (own_cl c246) = fd from hfd]
    have lfd : fd ≤ 9 := hfd ▸ own_fdN_le _ _ _ _ _ _
    show Goes _ _ _ _ _ _ _ _ _ _ _ _ _ _ _ _ _ _ _ _ [(a241, ar "[C" .char [.int c242, .int c243, .int c244, .int c245, .int c246])] 16 399 (mkF m 282 #[.val (.int p0), .val (.int p1), .val (.int p2), .val (.int p3), .val (.int p4), .val (.int p5), .val (.int (0 : Int32)), .val (.ref a241), .val (.ref a247), .val (.int pv), .val (.int (0 : Int32)), .val (.int (Int32.ofNat bad)), .val (.int (Int32.ofNat dots)), .unset, .unset] [.int (own_fdI fd)])
    refine Goes.run X [(.istore 13, 2), (.iload 6, 2), (.iload 10, 2)] (L' := #[.val (.int p0), .val (.int p1), .val (.int p2), .val (.int p3), .val (.int p4), .val (.int p5), .val (.int (0 : Int32)), .val (.ref a241), .val (.ref a247), .val (.int pv), .val (.int (0 : Int32)), .val (.int (Int32.ofNat bad)), .val (.int (Int32.ofNat dots)), .val (.int (own_fdI fd)), .unset]) (S' := [.int (0 : Int32), .int (0 : Int32)]) (pc' := 288) rfl ?_
    refine Goes.if2 X (pc' := 327) (o := 39) (cd := .le) (fun _ => ?_) (fun q => absurd q (by decide))
    refine Goes.run X [(.iconst 0, 1), (.istore 14, 2), (.iload 9, 2), (.iload 14, 2)] (L' := #[.val (.int p0), .val (.int p1), .val (.int p2), .val (.int p3), .val (.int p4), .val (.int p5), .val (.int (0 : Int32)), .val (.ref a241), .val (.ref a247), .val (.int pv), .val (.int (0 : Int32)), .val (.int (Int32.ofNat bad)), .val (.int (Int32.ofNat dots)), .val (.int (own_fdI fd)), .val (.int (0 : Int32))]) (S' := [.int (0 : Int32), .int pv]) (pc' := 334) rfl ?_
    have hp252 : pv = 0 := by rw [← hpv, ha, own_refA]; simp [hbad, hdots, hfd]
    refine Goes.if2 X (pc' := 341) (o := 7) (cd := .ne) (fun q => absurd (q.symm.trans (by rw [hp252]; decide : if_icmp.holds .ne pv (0 : Int32) = false)) (by decide)) (fun _ => ?_)
    refine Goes.runS X [(.iconst 1, 1)] (S' := [.int (1 : Int32)]) (pc' := 338) rfl ?_
    refine Goes.goto X (o := 4) (pc' := 342) ?_
    refine Goes.retI X (by simp) rfl ?_
    exact rfl
  · refine Goes.runS X [(.iload_n 0, 1)] (S' := [.int p0]) (pc' := 1) rfl ?_
    refine Goes.ldcI X (wd hw 0 rfl) ?_
    refine Goes.run X [(.iand, 1), (.bipush 6, 2), (.irem, 1), (.istore 6, 2)] (L' := #[.val (.int p0), .val (.int p1), .val (.int p2), .val (.int p3), .val (.int p4), .val (.int p5), .val (.int ((p0 &&& (2147483647 : Int32)) % (6 : Int32))), .unset, .unset, .unset, .unset, .unset, .unset, .unset, .unset]) (S' := []) (pc' := 9) rfl ?_
    rw [e1]
    show Goes _ _ _ _ _ _ _ _ _ _ _ _ _ _ _ _ _ _ _ _ [] 0 0 (mkF m 9 #[.val (.int p0), .val (.int p1), .val (.int p2), .val (.int p3), .val (.int p4), .val (.int p5), .val (.int (1 : Int32)), .unset, .unset, .unset, .unset, .unset, .unset, .unset, .unset] [])
    refine Goes.runS X [(.iconst 5, 1)] (S' := [.int (5 : Int32)]) (pc' := 10) rfl ?_
    refine Goes.newarr X (aty := .char) "[C" 5 5 (wd hw 1 rfl) (by decide +kernel) (by decide) (by decide) (fun a253 => ?_)
    refine Goes.run X [(.astore 7, 2), (.aload 7, 2), (.iconst 0, 1), (.iload_n 1, 1)] (L' := #[.val (.int p0), .val (.int p1), .val (.int p2), .val (.int p3), .val (.int p4), .val (.int p5), .val (.int (1 : Int32)), .val (.ref a253), .unset, .unset, .unset, .unset, .unset, .unset, .unset]) (S' := [.int p1, .int (0 : Int32), .ref a253]) (pc' := 18) rfl ?_
    refine Goes.callSW X 2 [] [0] (D_pick l Z a0 h0 hw cs hCS hcs sio hSIO hsio p1) (wd hw 2 rfl) (wd hw 3 rfl) (wd hw 4 rfl) (wd hw 5 rfl) pd_y_0 rfl (st := [.int (0 : Int32), .ref a253]) rfl rfl (G := [(a253, ar "[C" .char [.int 0, .int 0, .int 0, .int 0, .int 0])]) rfl rfl ?_
    rintro _ _ vm0 k0 ⟨c254, rfl, h0c254, h1c254, rfl⟩ X
    refine ⟨Or.inr (Or.inr fun _ q => Or.inr (Or.inr q)), ?_⟩
    refine Goes.castore X 0 0 rfl (by decide) (by decide) (Nat.le_of_ble_eq_true rfl) ?_
    rw [own_nca h0c254 h1c254]
    refine Goes.runS X [(.aload 7, 2), (.iconst 1, 1), (.iload_n 2, 1)] (S' := [.int p2, .int (1 : Int32), .ref a253]) (pc' := 26) rfl ?_
    refine Goes.callSW X 2 [] [0] (D_pick l Z a0 h0 hw cs hCS hcs sio hSIO hsio p2) (wd hw 2 rfl) (wd hw 3 rfl) (wd hw 4 rfl) (wd hw 5 rfl) pd_y_0 rfl (st := [.int (1 : Int32), .ref a253]) rfl rfl (G := [(a253, ar "[C" .char [.int c254, .int 0, .int 0, .int 0, .int 0])]) rfl rfl ?_
    rintro _ _ vm0 k0 ⟨c255, rfl, h0c255, h1c255, rfl⟩ X
    refine ⟨Or.inr (Or.inr fun _ q => Or.inr (Or.inr q)), ?_⟩
    refine Goes.castore X 0 1 rfl (by decide) (by decide) (Nat.le_of_ble_eq_true rfl) ?_
    rw [own_nca h0c255 h1c255]
    refine Goes.runS X [(.aload 7, 2), (.iconst 2, 1), (.iload_n 3, 1)] (S' := [.int p3, .int (2 : Int32), .ref a253]) (pc' := 34) rfl ?_
    refine Goes.callSW X 2 [] [0] (D_pick l Z a0 h0 hw cs hCS hcs sio hSIO hsio p3) (wd hw 2 rfl) (wd hw 3 rfl) (wd hw 4 rfl) (wd hw 5 rfl) pd_y_0 rfl (st := [.int (2 : Int32), .ref a253]) rfl rfl (G := [(a253, ar "[C" .char [.int c254, .int c255, .int 0, .int 0, .int 0])]) rfl rfl ?_
    rintro _ _ vm0 k0 ⟨c256, rfl, h0c256, h1c256, rfl⟩ X
    refine ⟨Or.inr (Or.inr fun _ q => Or.inr (Or.inr q)), ?_⟩
    refine Goes.castore X 0 2 rfl (by decide) (by decide) (Nat.le_of_ble_eq_true rfl) ?_
    rw [own_nca h0c256 h1c256]
    refine Goes.runS X [(.aload 7, 2), (.iconst 3, 1), (.iload 4, 2)] (S' := [.int p4, .int (3 : Int32), .ref a253]) (pc' := 43) rfl ?_
    refine Goes.callSW X 2 [] [0] (D_pick l Z a0 h0 hw cs hCS hcs sio hSIO hsio p4) (wd hw 2 rfl) (wd hw 3 rfl) (wd hw 4 rfl) (wd hw 5 rfl) pd_y_0 rfl (st := [.int (3 : Int32), .ref a253]) rfl rfl (G := [(a253, ar "[C" .char [.int c254, .int c255, .int c256, .int 0, .int 0])]) rfl rfl ?_
    rintro _ _ vm0 k0 ⟨c257, rfl, h0c257, h1c257, rfl⟩ X
    refine ⟨Or.inr (Or.inr fun _ q => Or.inr (Or.inr q)), ?_⟩
    refine Goes.castore X 0 3 rfl (by decide) (by decide) (Nat.le_of_ble_eq_true rfl) ?_
    rw [own_nca h0c257 h1c257]
    refine Goes.runS X [(.aload 7, 2), (.iconst 4, 1), (.iload 5, 2)] (S' := [.int p5, .int (4 : Int32), .ref a253]) (pc' := 52) rfl ?_
    refine Goes.callSW X 2 [] [0] (D_pick l Z a0 h0 hw cs hCS hcs sio hSIO hsio p5) (wd hw 2 rfl) (wd hw 3 rfl) (wd hw 4 rfl) (wd hw 5 rfl) pd_y_0 rfl (st := [.int (4 : Int32), .ref a253]) rfl rfl (G := [(a253, ar "[C" .char [.int c254, .int c255, .int c256, .int c257, .int 0])]) rfl rfl ?_
    rintro _ _ vm0 k0 ⟨c258, rfl, h0c258, h1c258, rfl⟩ X
    refine ⟨Or.inr (Or.inr fun _ q => Or.inr (Or.inr q)), ?_⟩
    refine Goes.castore X 0 4 rfl (by decide) (by decide) (Nat.le_of_ble_eq_true rfl) ?_
    rw [own_nca h0c258 h1c258]
    refine Goes.new X _ (wd hw 6 rfl) (wd hw 7 rfl) (wd hw 8 rfl) (new_Dig hw) (fun a259 => ?_)
    refine Goes.runS X [(.dup, 1), (.iconst 0, 1)] (S' := [.int (0 : Int32), .ref a259, .ref a259]) (pc' := 61) rfl ?_
    refine Goes.callN X 1 [1] [0] (D_dctor l Z a0 h0 hw cs hCS hcs a259) rfl (wd hw 9 rfl) (wd hw 10 rfl) (wd hw 8 rfl) (wd hw 11 rfl) pd_y_1 rfl (st := [.ref a259]) rfl rfl (G := [(a253, ar "[C" .char [.int c254, .int c255, .int c256, .int c257, .int c258])]) rfl rfl ?_
    rintro _ _ ⟨u260, b261, h262, b263, rfl, rfl⟩
    refine ⟨Or.inl rfl, ?_⟩
    refine Goes.run X [(.astore 8, 2), (.iload 6, 2)] (L' := #[.val (.int p0), .val (.int p1), .val (.int p2), .val (.int p3), .val (.int p4), .val (.int p5), .val (.int (1 : Int32)), .val (.ref a253), .val (.ref a259), .unset, .unset, .unset, .unset, .unset, .unset]) (S' := [.int (1 : Int32)]) (pc' := 68) rfl ?_
    refine Goes.if1 X (pc' := 81) (o := 13) (cd := .le) (fun q => absurd q (by decide)) (fun _ => ?_)
    refine Goes.runS X [(.aload 8, 2), (.aload 7, 2), (.iconst 0, 1)] (S' := [.int (0 : Int32), .ref a253, .ref a259]) (pc' := 76) rfl ?_
    refine Goes.caload X 4 0 rfl (by decide) (by decide) rfl ?_
    refine Goes.callV X 0 0 [0, 1, 2, 3] [4] rfl (D_add l Z a0 h0 hw cs hCS hcs a259 u260 h262 b261 (.ref b263) 0 0 (Or.inl rfl : own_ok 0) 0 0 0 0 0 0 (by omega) (List.replicate 16 (.int 0)) (by decide) c254 (own_le h1c254)) (wd hw 66 rfl) (wd hw 67 rfl) (wd hw 69 rfl) (wd hw 68 rfl) (own_nf X (wd hw 69 rfl)) (wd hw 8 rfl) (wd hw 70 rfl) pd_y_9 rfl (st := []) rfl rfl (G := [(a253, ar "[C" .char [.int c254, .int c255, .int c256, .int c257, .int c258])]) rfl rfl ?_
    rintro _ _ ⟨r264, sg265, pl266, ne267, ed268, ex269, k270, bs271, rfl, hk272, hbs273, rfl⟩
    refine ⟨Or.inl rfl, ?_⟩
    obtain ⟨s274, hs275⟩ : ∃ z, (own_st 0 c254) = z := ⟨_, rfl⟩
    obtain ⟨e276, he277⟩ : ∃ z, (own_en 0 0 c254) = z := ⟨_, rfl⟩
    rw [hs275, he277]
    refine Goes.runS X [(.pop, 1), (.iload 6, 2), (.iconst 1, 1)] (S' := [.int (1 : Int32), .int (1 : Int32)]) (pc' := 84) rfl ?_
    refine Goes.if2 X (pc' := 97) (o := 13) (cd := .le) (fun _ => ?_) (fun q => absurd q (by decide))
    refine Goes.runS X [(.iload 6, 2), (.iconst 2, 1)] (S' := [.int (2 : Int32), .int (1 : Int32)]) (pc' := 100) rfl ?_
    refine Goes.if2 X (pc' := 113) (o := 13) (cd := .le) (fun _ => ?_) (fun q => absurd q (by decide))
    refine Goes.runS X [(.iload 6, 2), (.iconst 3, 1)] (S' := [.int (3 : Int32), .int (1 : Int32)]) (pc' := 116) rfl ?_
    refine Goes.if2 X (pc' := 129) (o := 13) (cd := .le) (fun _ => ?_) (fun q => absurd q (by decide))
    refine Goes.runS X [(.iload 6, 2), (.iconst 4, 1)] (S' := [.int (4 : Int32), .int (1 : Int32)]) (pc' := 132) rfl ?_
    refine Goes.if2 X (pc' := 145) (o := 13) (cd := .le) (fun _ => ?_) (fun q => absurd q (by decide))
    refine Goes.runS X [(.aload 8, 2)] (S' := [.ref a259]) (pc' := 147) rfl ?_
    refine Goes.callV X 0 0 [0] [1, 2, 3, 4] rfl (D_pl l Z a0 h0 hw a259 s274 e276 (.long sg265) (.long pl266) (.int ne267) (.int ed268) (.long ex269) (.ref u260) (.ref h262) (.int 0) (.int 0)) (wd hw 45 rfl) (wd hw 46 rfl) (wd hw 48 rfl) (wd hw 47 rfl) (own_nf X (wd hw 48 rfl)) (wd hw 8 rfl) (wd hw 49 rfl) pd_y_4 rfl (st := []) rfl rfl (G := [(u260, o_SB (.ref b261) (.int 0) (.int (Int32.ofNat k270))), (b261, oBs bs271), (h262, o_SB (.ref b263) (.int 0) (.int 0)), (a253, ar "[C" .char [.int c254, .int c255, .int c256, .int c257, .int c258])]) rfl rfl ?_
    rintro _ _ ⟨rfl, rfl⟩
    refine ⟨Or.inr (Or.inr fun _ q => Or.inr (Or.inr q)), ?_⟩
    obtain ⟨pv, hpv⟩ : ∃ z, own_pl s274 e276 = z := ⟨_, rfl⟩
    rw [hpv]
    subst he277
    subst hs275
    rw [own_law1 c254 0] at hpv
    refine Goes.sub [4] (G := [(a253, ar "[C" .char [.int c254, .int c255, .int c256, .int c257, .int c258])]) rfl ?_
    refine Goes.run X [(.istore 9, 2), (.iload 6, 2)] (L' := #[.val (.int p0), .val (.int p1), .val (.int p2), .val (.int p3), .val (.int p4), .val (.int p5), .val (.int (1 : Int32)), .val (.ref a253), .val (.ref a259), .val (.int pv), .unset, .unset, .unset, .unset, .unset]) (S' := [.int (1 : Int32)]) (pc' := 154) rfl ?_
    refine Goes.if1 X (pc' := 170) (o := 16) (cd := .le) (fun q => absurd q (by decide)) (fun _ => ?_)
    refine Goes.runS X [(.aload 7, 2), (.iconst 0, 1)] (S' := [.int (0 : Int32), .ref a253]) (pc' := 160) rfl ?_
    refine Goes.caload X 0 0 rfl (by decide) (by decide) rfl ?_
    refine Goes.runS X [(.bipush 45, 2)] (S' := [.int (45 : Int32), .int c254]) (pc' := 163) rfl ?_
    refine Goes.if2 X (pc' := 170) (o := 7) (cd := .ne) (fun q278 => ?_) (fun q278 => ?_)
    · have h279 : ¬ c254 = 45 := by simpa [if_icmp.holds] using q278
      have ha : own_refN 1 [(own_cl c254)] = own_refA 1 0 [(own_cl c254)] := congrArg (fun z => own_refA 1 z [(own_cl c254)]) (if_neg fun z => h279 ((own_cl0 _).mp z.2))
      refine Goes.runS X [(.iconst 0, 1)] (S' := [.int (0 : Int32)]) (pc' := 171) rfl ?_
      refine Goes.run X [(.istore 10, 2), (.aload 7, 2), (.iconst 0, 1), (.iload 6, 2), (.iload 10, 2)] (L' := #[.val (.int p0), .val (.int p1), .val (.int p2), .val (.int p3), .val (.int p4), .val (.int p5), .val (.int (1 : Int32)), .val (.ref a253), .val (.ref a259), .val (.int pv), .val (.int (0 : Int32)), .unset, .unset, .unset, .unset]) (S' := [.int (0 : Int32), .int (1 : Int32), .int (0 : Int32), .ref a253]) (pc' := 180) rfl ?_
      refine Goes.callS X 0 [0] [] (D_bad l Z a0 h0 hw a253 _ 1 0 0 (by decide) (by decide) (by decide) c254 rfl) (wd hw 57 rfl) (wd hw 58 rfl) (wd hw 4 rfl) (wd hw 59 rfl) pd_y_6 rfl (st := []) rfl rfl (G := []) rfl rfl ?_
      rintro _ _ ⟨rfl, rfl⟩
      refine ⟨Or.inr (Or.inr fun _ q => Or.inr (Or.inr q)), ?_⟩
      refine Goes.runS X [(.aload 7, 2), (.iconst 1, 1), (.iload 6, 2), (.iload 10, 2)] (S' := [.int (0 : Int32), .int (1 : Int32), .int (1 : Int32), .ref a253, .int (Int32.ofNat (own_badN 1 0 0 (own_cl c254)))]) (pc' := 190) rfl ?_
      refine Goes.callS X 1 [0] [] (D_bad l Z a0 h0 hw a253 _ 1 0 1 (by decide) (by decide) (by decide) c255 rfl) (wd hw 57 rfl) (wd hw 58 rfl) (wd hw 4 rfl) (wd hw 59 rfl) pd_y_6 rfl (st := [.int (Int32.ofNat (own_badN 1 0 0 (own_cl c254)))]) rfl rfl (G := []) rfl rfl ?_
      rintro _ _ ⟨rfl, rfl⟩
      refine ⟨Or.inr (Or.inr fun _ q => Or.inr (Or.inr q)), ?_⟩
      refine Goes.runS X [(.iadd, 1), (.aload 7, 2), (.iconst 2, 1), (.iload 6, 2), (.iload 10, 2)] (S' := [.int (0 : Int32), .int (1 : Int32), .int (2 : Int32), .ref a253, .int ((Int32.ofNat (own_badN 1 0 0 (own_cl c254))) + (Int32.ofNat (own_badN 1 0 1 (own_cl c255))))]) (pc' := 201) rfl ?_
      refine Goes.callS X 1 [0] [] (D_bad l Z a0 h0 hw a253 _ 1 0 2 (by decide) (by decide) (by decide) c256 rfl) (wd hw 57 rfl) (wd hw 58 rfl) (wd hw 4 rfl) (wd hw 59 rfl) pd_y_6 rfl (st := [.int ((Int32.ofNat (own_badN 1 0 0 (own_cl c254))) + (Int32.ofNat (own_badN 1 0 1 (own_cl c255))))]) rfl rfl (G := []) rfl rfl ?_
      rintro _ _ ⟨rfl, rfl⟩
      refine ⟨Or.inr (Or.inr fun _ q => Or.inr (Or.inr q)), ?_⟩
      refine Goes.runS X [(.iadd, 1), (.aload 7, 2), (.iconst 3, 1), (.iload 6, 2), (.iload 10, 2)] (S' := [.int (0 : Int32), .int (1 : Int32), .int (3 : Int32), .ref a253, .int (((Int32.ofNat (own_badN 1 0 0 (own_cl c254))) + (Int32.ofNat (own_badN 1 0 1 (own_cl c255)))) + (Int32.ofNat (own_badN 1 0 2 (own_cl c256))))]) (pc' := 212) rfl ?_
      refine Goes.callS X 1 [0] [] (D_bad l Z a0 h0 hw a253 _ 1 0 3 (by decide) (by decide) (by decide) c257 rfl) (wd hw 57 rfl) (wd hw 58 rfl) (wd hw 4 rfl) (wd hw 59 rfl) pd_y_6 rfl (st := [.int (((Int32.ofNat (own_badN 1 0 0 (own_cl c254))) + (Int32.ofNat (own_badN 1 0 1 (own_cl c255)))) + (Int32.ofNat (own_badN 1 0 2 (own_cl c256))))]) rfl rfl (G := []) rfl rfl ?_
      rintro _ _ ⟨rfl, rfl⟩
      refine ⟨Or.inr (Or.inr fun _ q => Or.inr (Or.inr q)), ?_⟩
      refine Goes.runS X [(.iadd, 1), (.aload 7, 2), (.iconst 4, 1), (.iload 6, 2), (.iload 10, 2)] (S' := [.int (0 : Int32), .int (1 : Int32), .int (4 : Int32), .ref a253, .int ((((Int32.ofNat (own_badN 1 0 0 (own_cl c254))) + (Int32.ofNat (own_badN 1 0 1 (own_cl c255)))) + (Int32.ofNat (own_badN 1 0 2 (own_cl c256)))) + (Int32.ofNat (own_badN 1 0 3 (own_cl c257))))]) (pc' := 223) rfl ?_
      refine Goes.callS X 1 [0] [] (D_bad l Z a0 h0 hw a253 _ 1 0 4 (by decide) (by decide) (by decide) c258 rfl) (wd hw 57 rfl) (wd hw 58 rfl) (wd hw 4 rfl) (wd hw 59 rfl) pd_y_6 rfl (st := [.int ((((Int32.ofNat (own_badN 1 0 0 (own_cl c254))) + (Int32.ofNat (own_badN 1 0 1 (own_cl c255)))) + (Int32.ofNat (own_badN 1 0 2 (own_cl c256)))) + (Int32.ofNat (own_badN 1 0 3 (own_cl c257))))]) rfl rfl (G := []) rfl rfl ?_
      rintro _ _ ⟨rfl, rfl⟩
      refine ⟨Or.inr (Or.inr fun _ q => Or.inr (Or.inr q)), ?_⟩
      refine Goes.runS X [(.iadd, 1)] (S' := [.int (((((Int32.ofNat (own_badN 1 0 0 (own_cl c254))) + (Int32.ofNat (own_badN 1 0 1 (own_cl c255)))) + (Int32.ofNat (own_badN 1 0 2 (own_cl c256)))) + (Int32.ofNat (own_badN 1 0 3 (own_cl c257)))) + (Int32.ofNat (own_badN 1 0 4 (own_cl c258))))]) (pc' := 227) rfl ?_
      obtain ⟨bad, hbad⟩ : ∃ x, own_badL 1 0 [(own_cl c254)] = x := ⟨_, rfl⟩
      have lbad : bad ≤ 9 := hbad ▸ own_badL_le _ _ _
      rw [show (((((Int32.ofNat (own_badN 1 0 0 (own_cl c254))) + (Int32.ofNat (own_badN 1 0 1 (own_cl c255)))) + (Int32.ofNat (own_badN 1 0 2 (own_cl c256)))) + (Int32.ofNat (own_badN 1 0 3 (own_cl c257)))) + (Int32.ofNat (own_badN 1 0 4 (own_cl c258)))) = Int32.ofNat bad from by rw [← hbad]; simp only [← Int32.ofNat_add]; rfl]
      show Goes _ _ _ _ _ _ _ _ _ _ _ _ _ _ _ _ _ _ _ _ [(a253, ar "[C" .char [.int c254, .int c255, .int c256, .int c257, .int c258])] 16 399 (mkF m 227 #[.val (.int p0), .val (.int p1), .val (.int p2), .val (.int p3), .val (.int p4), .val (.int p5), .val (.int (1 : Int32)), .val (.ref a253), .val (.ref a259), .val (.int pv), .val (.int (0 : Int32)), .unset, .unset, .unset, .unset] [.int (Int32.ofNat bad)])
      refine Goes.run X [(.istore 11, 2), (.aload 7, 2), (.iconst 0, 1), (.iload 6, 2)] (L' := #[.val (.int p0), .val (.int p1), .val (.int p2), .val (.int p3), .val (.int p4), .val (.int p5), .val (.int (1 : Int32)), .val (.ref a253), .val (.ref a259), .val (.int pv), .val (.int (0 : Int32)), .val (.int (Int32.ofNat bad)), .unset, .unset, .unset]) (S' := [.int (1 : Int32), .int (0 : Int32), .ref a253]) (pc' := 234) rfl ?_
      refine Goes.callS X 0 [0] [] (D_dot l Z a0 h0 hw a253 _ 1 0 (by omega) (by decide) c254 rfl) (wd hw 60 rfl) (wd hw 61 rfl) (wd hw 4 rfl) (wd hw 62 rfl) pd_y_7 rfl (st := []) rfl rfl (G := []) rfl rfl ?_
      rintro _ _ ⟨rfl, rfl⟩
      refine ⟨Or.inr (Or.inr fun _ q => Or.inr (Or.inr q)), ?_⟩
      refine Goes.runS X [(.aload 7, 2), (.iconst 1, 1), (.iload 6, 2)] (S' := [.int (1 : Int32), .int (1 : Int32), .ref a253, .int (Int32.ofNat (own_dotN 1 0 (own_cl c254)))]) (pc' := 242) rfl ?_
      refine Goes.callS X 1 [0] [] (D_dot l Z a0 h0 hw a253 _ 1 1 (by omega) (by decide) c255 rfl) (wd hw 60 rfl) (wd hw 61 rfl) (wd hw 4 rfl) (wd hw 62 rfl) pd_y_7 rfl (st := [.int (Int32.ofNat (own_dotN 1 0 (own_cl c254)))]) rfl rfl (G := []) rfl rfl ?_
      rintro _ _ ⟨rfl, rfl⟩
      refine ⟨Or.inr (Or.inr fun _ q => Or.inr (Or.inr q)), ?_⟩
      refine Goes.runS X [(.iadd, 1), (.aload 7, 2), (.iconst 2, 1), (.iload 6, 2)] (S' := [.int (1 : Int32), .int (2 : Int32), .ref a253, .int ((Int32.ofNat (own_dotN 1 0 (own_cl c254))) + (Int32.ofNat (own_dotN 1 1 (own_cl c255))))]) (pc' := 251) rfl ?_
      refine Goes.callS X 1 [0] [] (D_dot l Z a0 h0 hw a253 _ 1 2 (by omega) (by decide) c256 rfl) (wd hw 60 rfl) (wd hw 61 rfl) (wd hw 4 rfl) (wd hw 62 rfl) pd_y_7 rfl (st := [.int ((Int32.ofNat (own_dotN 1 0 (own_cl c254))) + (Int32.ofNat (own_dotN 1 1 (own_cl c255))))]) rfl rfl (G := []) rfl rfl ?_
      rintro _ _ ⟨rfl, rfl⟩
      refine ⟨Or.inr (Or.inr fun _ q => Or.inr (Or.inr q)), ?_⟩
      refine Goes.runS X [(.iadd, 1), (.aload 7, 2), (.iconst 3, 1), (.iload 6, 2)] (S' := [.int (1 : Int32), .int (3 : Int32), .ref a253, .int (((Int32.ofNat (own_dotN 1 0 (own_cl c254))) + (Int32.ofNat (own_dotN 1 1 (own_cl c255)))) + (Int32.ofNat (own_dotN 1 2 (own_cl c256))))]) (pc' := 260) rfl ?_
      refine Goes.callS X 1 [0] [] (D_dot l Z a0 h0 hw a253 _ 1 3 (by omega) (by decide) c257 rfl) (wd hw 60 rfl) (wd hw 61 rfl) (wd hw 4 rfl) (wd hw 62 rfl) pd_y_7 rfl (st := [.int (((Int32.ofNat (own_dotN 1 0 (own_cl c254))) + (Int32.ofNat (own_dotN 1 1 (own_cl c255)))) + (Int32.ofNat (own_dotN 1 2 (own_cl c256))))]) rfl rfl (G := []) rfl rfl ?_
      rintro _ _ ⟨rfl, rfl⟩
      refine ⟨Or.inr (Or.inr fun _ q => Or.inr (Or.inr q)), ?_⟩
      refine Goes.runS X [(.iadd, 1), (.aload 7, 2), (.iconst 4, 1), (.iload 6, 2)] (S' := [.int (1 : Int32), .int (4 : Int32), .ref a253, .int ((((Int32.ofNat (own_dotN 1 0 (own_cl c254))) + (Int32.ofNat (own_dotN 1 1 (own_cl c255)))) + (Int32.ofNat (own_dotN 1 2 (own_cl c256)))) + (Int32.ofNat (own_dotN 1 3 (own_cl c257))))]) (pc' := 269) rfl ?_
      refine Goes.callS X 1 [0] [] (D_dot l Z a0 h0 hw a253 _ 1 4 (by omega) (by decide) c258 rfl) (wd hw 60 rfl) (wd hw 61 rfl) (wd hw 4 rfl) (wd hw 62 rfl) pd_y_7 rfl (st := [.int ((((Int32.ofNat (own_dotN 1 0 (own_cl c254))) + (Int32.ofNat (own_dotN 1 1 (own_cl c255)))) + (Int32.ofNat (own_dotN 1 2 (own_cl c256)))) + (Int32.ofNat (own_dotN 1 3 (own_cl c257))))]) rfl rfl (G := []) rfl rfl ?_
      rintro _ _ ⟨rfl, rfl⟩
      refine ⟨Or.inr (Or.inr fun _ q => Or.inr (Or.inr q)), ?_⟩
      refine Goes.runS X [(.iadd, 1)] (S' := [.int (((((Int32.ofNat (own_dotN 1 0 (own_cl c254))) + (Int32.ofNat (own_dotN 1 1 (own_cl c255)))) + (Int32.ofNat (own_dotN 1 2 (own_cl c256)))) + (Int32.ofNat (own_dotN 1 3 (own_cl c257)))) + (Int32.ofNat (own_dotN 1 4 (own_cl c258))))]) (pc' := 273) rfl ?_
      obtain ⟨dots, hdots⟩ : ∃ x, own_dotL 1 [(own_cl c254)] = x := ⟨_, rfl⟩
      have ldots : dots ≤ 9 := hdots ▸ own_dotL_le _ _
      rw [show (((((Int32.ofNat (own_dotN 1 0 (own_cl c254))) + (Int32.ofNat (own_dotN 1 1 (own_cl c255)))) + (Int32.ofNat (own_dotN 1 2 (own_cl c256)))) + (Int32.ofNat (own_dotN 1 3 (own_cl c257)))) + (Int32.ofNat (own_dotN 1 4 (own_cl c258)))) = Int32.ofNat dots from by rw [← hdots]; simp only [← Int32.ofNat_add]; rfl]
      show Goes _ _ _ _ _ _ _ _ _ _ _ _ _ _ _ _ _ _ _ _ [(a253, ar "[C" .char [.int c254, .int c255, .int c256, .int c257, .int c258])] 16 399 (mkF m 273 #[.val (.int p0), .val (.int p1), .val (.int p2), .val (.int p3), .val (.int p4), .val (.int p5), .val (.int (1 : Int32)), .val (.ref a253), .val (.ref a259), .val (.int pv), .val (.int (0 : Int32)), .val (.int (Int32.ofNat bad)), .unset, .unset, .unset] [.int (Int32.ofNat dots)])
      refine Goes.run X [(.istore 12, 2), (.aload 7, 2), (.iload 6, 2)] (L' := #[.val (.int p0), .val (.int p1), .val (.int p2), .val (.int p3), .val (.int p4), .val (.int p5), .val (.int (1 : Int32)), .val (.ref a253), .val (.ref a259), .val (.int pv), .val (.int (0 : Int32)), .val (.int (Int32.ofNat bad)), .val (.int (Int32.ofNat dots)), .unset, .unset]) (S' := [.int (1 : Int32), .ref a253]) (pc' := 279) rfl ?_
      refine Goes.callS X 0 [0] [] (D_fd l Z a0 h0 hw a253 c254 c255 c256 c257 c258 1 (by decide)) (wd hw 63 rfl) (wd hw 64 rfl) (wd hw 4 rfl) (wd hw 65 rfl) pd_y_8 rfl (st := []) rfl rfl (G := []) rfl rfl ?_
      rintro _ _ ⟨rfl, rfl⟩
      refine ⟨Or.inr (Or.inr fun _ q => Or.inr (Or.inr q)), ?_⟩
      obtain ⟨fd, hfd⟩ : ∃ x, own_fdL 1 [(own_cl c254)] = x := ⟨_, rfl⟩
      rw [show own_fdN 1 (own_cl c254) (own_cl c255) (own_cl c256) (own_cl c257) (own_cl c258) = fd from hfd]
      have lfd : fd ≤ 9 := hfd ▸ own_fdN_le _ _ _ _ _ _
      show Goes _ _ _ _ _ _ _ _ _ _ _ _ _ _ _ _ _ _ _ _ [(a253, ar "[C" .char [.int c254, .int c255, .int c256, .int c257, .int c258])] 16 399 (mkF m 282 #[.val (.int p0), .val (.int p1), .val (.int p2), .val (.int p3), .val (.int p4), .val (.int p5), .val (.int (1 : Int32)), .val (.ref a253), .val (.ref a259), .val (.int pv), .val (.int (0 : Int32)), .val (.int (Int32.ofNat bad)), .val (.int (Int32.ofNat dots)), .unset, .unset] [.int (own_fdI fd)])
      refine Goes.run X [(.istore 13, 2), (.iload 6, 2), (.iload 10, 2)] (L' := #[.val (.int p0), .val (.int p1), .val (.int p2), .val (.int p3), .val (.int p4), .val (.int p5), .val (.int (1 : Int32)), .val (.ref a253), .val (.ref a259), .val (.int pv), .val (.int (0 : Int32)), .val (.int (Int32.ofNat bad)), .val (.int (Int32.ofNat dots)), .val (.int (own_fdI fd)), .unset]) (S' := [.int (0 : Int32), .int (1 : Int32)]) (pc' := 288) rfl ?_
      refine Goes.if2 X (pc' := 327) (o := 39) (cd := .le) (fun q => absurd q (by decide)) (fun _ => ?_)
      refine Goes.runS X [(.iload 11, 2)] (S' := [.int (Int32.ofNat bad)]) (pc' := 293) rfl ?_
      refine Goes.if1 X (pc' := 327) (o := 34) (cd := .ne) (fun q280 => ?_) (fun q280 => ?_)
      · have h281 := own_sT (own_s0 _ lbad) q280
        refine Goes.run X [(.iconst 0, 1), (.istore 14, 2), (.iload 9, 2), (.iload 14, 2)] (L' := #[.val (.int p0), .val (.int p1), .val (.int p2), .val (.int p3), .val (.int p4), .val (.int p5), .val (.int (1 : Int32)), .val (.ref a253), .val (.ref a259), .val (.int pv), .val (.int (0 : Int32)), .val (.int (Int32.ofNat bad)), .val (.int (Int32.ofNat dots)), .val (.int (own_fdI fd)), .val (.int (0 : Int32))]) (S' := [.int (0 : Int32), .int pv]) (pc' := 334) rfl ?_
        have hp282 : pv = 0 := by rw [← hpv, ha, own_refA]; simp [hbad, hdots, hfd, h281]
        refine Goes.if2 X (pc' := 341) (o := 7) (cd := .ne) (fun q => absurd (q.symm.trans (by rw [hp282]; decide : if_icmp.holds .ne pv (0 : Int32) = false)) (by decide)) (fun _ => ?_)
        refine Goes.runS X [(.iconst 1, 1)] (S' := [.int (1 : Int32)]) (pc' := 338) rfl ?_
        refine Goes.goto X (o := 4) (pc' := 342) ?_
        refine Goes.retI X (by simp) rfl ?_
        exact rfl
      · have h283 := own_sF (own_s0 _ lbad) q280
        have h283 := Classical.not_not.mp h283
        refine Goes.runS X [(.iload 12, 2), (.iconst 1, 1)] (S' := [.int (1 : Int32), .int (Int32.ofNat dots)]) (pc' := 299) rfl ?_
        refine Goes.if2 X (pc' := 327) (o := 28) (cd := .gt) (fun q284 => ?_) (fun q284 => ?_)
        · have h285 := own_sT (own_s1 _ ldots) q284
          refine Goes.run X [(.iconst 0, 1), (.istore 14, 2), (.iload 9, 2), (.iload 14, 2)] (L' := #[.val (.int p0), .val (.int p1), .val (.int p2), .val (.int p3), .val (.int p4), .val (.int p5), .val (.int (1 : Int32)), .val (.ref a253), .val (.ref a259), .val (.int pv), .val (.int (0 : Int32)), .val (.int (Int32.ofNat bad)), .val (.int (Int32.ofNat dots)), .val (.int (own_fdI fd)), .val (.int (0 : Int32))]) (S' := [.int (0 : Int32), .int pv]) (pc' := 334) rfl ?_
          have hp286 : pv = 0 := by rw [← hpv, ha, own_refA]; simp [hbad, hdots, hfd, h283, h285]
          refine Goes.if2 X (pc' := 341) (o := 7) (cd := .ne) (fun q => absurd (q.symm.trans (by rw [hp286]; decide : if_icmp.holds .ne pv (0 : Int32) = false)) (by decide)) (fun _ => ?_)
          refine Goes.runS X [(.iconst 1, 1)] (S' := [.int (1 : Int32)]) (pc' := 338) rfl ?_
          refine Goes.goto X (o := 4) (pc' := 342) ?_
          refine Goes.retI X (by simp) rfl ?_
          exact rfl
        · have h287 := own_sF (own_s1 _ ldots) q284
          refine Goes.runS X [(.iload 12, 2)] (S' := [.int (Int32.ofNat dots)]) (pc' := 304) rfl ?_
          refine Goes.if1 X (pc' := 323) (o := 19) (cd := .eq) (fun q288 => ?_) (fun q288 => ?_)
          · have h289 := own_sT (own_s0' _ ldots) q288
            refine Goes.runS X [(.iconst 1, 1)] (S' := [.int (1 : Int32)]) (pc' := 324) rfl ?_
            refine Goes.goto X (o := 4) (pc' := 328) ?_
            refine Goes.run X [(.istore 14, 2), (.iload 9, 2), (.iload 14, 2)] (L' := #[.val (.int p0), .val (.int p1), .val (.int p2), .val (.int p3), .val (.int p4), .val (.int p5), .val (.int (1 : Int32)), .val (.ref a253), .val (.ref a259), .val (.int pv), .val (.int (0 : Int32)), .val (.int (Int32.ofNat bad)), .val (.int (Int32.ofNat dots)), .val (.int (own_fdI fd)), .val (.int (1 : Int32))]) (S' := [.int (1 : Int32), .int pv]) (pc' := 334) rfl ?_
            have hp290 : pv = 1 := by rw [← hpv, ha, own_refA]; simp [hbad, hdots, hfd, h283, h287, h289]
            refine Goes.if2 X (pc' := 341) (o := 7) (cd := .ne) (fun q => absurd (q.symm.trans (by rw [hp290]; decide : if_icmp.holds .ne pv (1 : Int32) = false)) (by decide)) (fun _ => ?_)
            refine Goes.runS X [(.iconst 1, 1)] (S' := [.int (1 : Int32)]) (pc' := 338) rfl ?_
            refine Goes.goto X (o := 4) (pc' := 342) ?_
            refine Goes.retI X (by simp) rfl ?_
            exact rfl
          · have h291 := own_sF (own_s0' _ ldots) q288
            refine Goes.runS X [(.iload 13, 2), (.iload 10, 2)] (S' := [.int (0 : Int32), .int (own_fdI fd)]) (pc' := 311) rfl ?_
            refine Goes.if2 X (pc' := 327) (o := 16) (cd := .eq) (fun q292 => ?_) (fun q292 => ?_)
            · have h293 := own_sT (own_s3 _ lfd 0 (by decide)) q292
              refine Goes.run X [(.iconst 0, 1), (.istore 14, 2), (.iload 9, 2), (.iload 14, 2)] (L' := #[.val (.int p0), .val (.int p1), .val (.int p2), .val (.int p3), .val (.int p4), .val (.int p5), .val (.int (1 : Int32)), .val (.ref a253), .val (.ref a259), .val (.int pv), .val (.int (0 : Int32)), .val (.int (Int32.ofNat bad)), .val (.int (Int32.ofNat dots)), .val (.int (own_fdI fd)), .val (.int (0 : Int32))]) (S' := [.int (0 : Int32), .int pv]) (pc' := 334) rfl ?_
              have hp294 : pv = 0 := by rw [← hpv, ha, own_refA]; simp [hbad, hdots, hfd, h283, h287, h291, h293]
              refine Goes.if2 X (pc' := 341) (o := 7) (cd := .ne) (fun q => absurd (q.symm.trans (by rw [hp294]; decide : if_icmp.holds .ne pv (0 : Int32) = false)) (by decide)) (fun _ => ?_)
              refine Goes.runS X [(.iconst 1, 1)] (S' := [.int (1 : Int32)]) (pc' := 338) rfl ?_
              refine Goes.goto X (o := 4) (pc' := 342) ?_
              refine Goes.retI X (by simp) rfl ?_
              exact rfl
            · have h295 := own_sF (own_s3 _ lfd 0 (by decide)) q292
              refine Goes.runS X [(.iload 13, 2), (.iload 6, 2), (.iconst 1, 1), (.isub, 1)] (S' := [.int (0 : Int32), .int (own_fdI fd)]) (pc' := 320) rfl ?_
              refine Goes.if2 X (pc' := 327) (o := 7) (cd := .eq) (fun q296 => ?_) (fun q296 => ?_)
              · have h297 := own_sT (own_s3 _ lfd 0 (by decide)) q296
                refine Goes.run X [(.iconst 0, 1), (.istore 14, 2), (.iload 9, 2), (.iload 14, 2)] (L' := #[.val (.int p0), .val (.int p1), .val (.int p2), .val (.int p3), .val (.int p4), .val (.int p5), .val (.int (1 : Int32)), .val (.ref a253), .val (.ref a259), .val (.int pv), .val (.int (0 : Int32)), .val (.int (Int32.ofNat bad)), .val (.int (Int32.ofNat dots)), .val (.int (own_fdI fd)), .val (.int (0 : Int32))]) (S' := [.int (0 : Int32), .int pv]) (pc' := 334) rfl ?_
                have hp298 : pv = 0 := by rw [← hpv, ha, own_refA]; simp [hbad, hdots, hfd, h283, h287, h291, h295, h297]
                refine Goes.if2 X (pc' := 341) (o := 7) (cd := .ne) (fun q => absurd (q.symm.trans (by rw [hp298]; decide : if_icmp.holds .ne pv (0 : Int32) = false)) (by decide)) (fun _ => ?_)
                refine Goes.runS X [(.iconst 1, 1)] (S' := [.int (1 : Int32)]) (pc' := 338) rfl ?_
                refine Goes.goto X (o := 4) (pc' := 342) ?_
                refine Goes.retI X (by simp) rfl ?_
                exact rfl
              · have h299 := own_sF (own_s3 _ lfd 0 (by decide)) q296
                refine Goes.runS X [(.iconst 1, 1)] (S' := [.int (1 : Int32)]) (pc' := 324) rfl ?_
                refine Goes.goto X (o := 4) (pc' := 328) ?_
                refine Goes.run X [(.istore 14, 2), (.iload 9, 2), (.iload 14, 2)] (L' := #[.val (.int p0), .val (.int p1), .val (.int p2), .val (.int p3), .val (.int p4), .val (.int p5), .val (.int (1 : Int32)), .val (.ref a253), .val (.ref a259), .val (.int pv), .val (.int (0 : Int32)), .val (.int (Int32.ofNat bad)), .val (.int (Int32.ofNat dots)), .val (.int (own_fdI fd)), .val (.int (1 : Int32))]) (S' := [.int (1 : Int32), .int pv]) (pc' := 334) rfl ?_
                have hp300 : pv = 1 := by rw [← hpv, ha, own_refA]; simp [hbad, hdots, hfd, h283, h287, h291, h295, h299]
                refine Goes.if2 X (pc' := 341) (o := 7) (cd := .ne) (fun q => absurd (q.symm.trans (by rw [hp300]; decide : if_icmp.holds .ne pv (1 : Int32) = false)) (by decide)) (fun _ => ?_)
                refine Goes.runS X [(.iconst 1, 1)] (S' := [.int (1 : Int32)]) (pc' := 338) rfl ?_
                refine Goes.goto X (o := 4) (pc' := 342) ?_
                refine Goes.retI X (by simp) rfl ?_
                exact rfl
    · have h301 : c254 = 45 := by simpa [if_icmp.holds] using q278
      have ha : own_refN 1 [(own_cl c254)] = own_refA 1 1 [(own_cl c254)] := congrArg (fun z => own_refA 1 z [(own_cl c254)]) (if_pos ⟨by decide, (own_cl0 _).mpr h301⟩)
      refine Goes.runS X [(.iconst 1, 1)] (S' := [.int (1 : Int32)]) (pc' := 167) rfl ?_
      refine Goes.goto X (o := 4) (pc' := 171) ?_
      refine Goes.run X [(.istore 10, 2), (.aload 7, 2), (.iconst 0, 1), (.iload 6, 2), (.iload 10, 2)] (L' := #[.val (.int p0), .val (.int p1), .val (.int p2), .val (.int p3), .val (.int p4), .val (.int p5), .val (.int (1 : Int32)), .val (.ref a253), .val (.ref a259), .val (.int pv), .val (.int (1 : Int32)), .unset, .unset, .unset, .unset]) (S' := [.int (1 : Int32), .int (1 : Int32), .int (0 : Int32), .ref a253]) (pc' := 180) rfl ?_
      refine Goes.callS X 0 [0] [] (D_bad l Z a0 h0 hw a253 _ 1 1 0 (by decide) (by decide) (by decide) c254 rfl) (wd hw 57 rfl) (wd hw 58 rfl) (wd hw 4 rfl) (wd hw 59 rfl) pd_y_6 rfl (st := []) rfl rfl (G := []) rfl rfl ?_
      rintro _ _ ⟨rfl, rfl⟩
      refine ⟨Or.inr (Or.inr fun _ q => Or.inr (Or.inr q)), ?_⟩
      refine Goes.runS X [(.aload 7, 2), (.iconst 1, 1), (.iload 6, 2), (.iload 10, 2)] (S' := [.int (1 : Int32), .int (1 : Int32), .int (1 : Int32), .ref a253, .int (Int32.ofNat (own_badN 1 1 0 (own_cl c254)))]) (pc' := 190) rfl ?_
      refine Goes.callS X 1 [0] [] (D_bad l Z a0 h0 hw a253 _ 1 1 1 (by decide) (by decide) (by decide) c255 rfl) (wd hw 57 rfl) (wd hw 58 rfl) (wd hw 4 rfl) (wd hw 59 rfl) pd_y_6 rfl (st := [.int (Int32.ofNat (own_badN 1 1 0 (own_cl c254)))]) rfl rfl (G := []) rfl rfl ?_
      rintro _ _ ⟨rfl, rfl⟩
      refine ⟨Or.inr (Or.inr fun _ q => Or.inr (Or.inr q)), ?_⟩
      refine Goes.runS X [(.iadd, 1), (.aload 7, 2), (.iconst 2, 1), (.iload 6, 2), (.iload 10, 2)] (S' := [.int (1 : Int32), .int (1 : Int32), .int (2 : Int32), .ref a253, .int ((Int32.ofNat (own_badN 1 1 0 (own_cl c254))) + (Int32.ofNat (own_badN 1 1 1 (own_cl c255))))]) (pc' := 201) rfl ?_
      refine Goes.callS X 1 [0] [] (D_bad l Z a0 h0 hw a253 _ 1 1 2 (by decide) (by decide) (by decide) c256 rfl) (wd hw 57 rfl) (wd hw 58 rfl) (wd hw 4 rfl) (wd hw 59 rfl) pd_y_6 rfl (st := [.int ((Int32.ofNat (own_badN 1 1 0 (own_cl c254))) + (Int32.ofNat (own_badN 1 1 1 (own_cl c255))))]) rfl rfl (G := []) rfl rfl ?_
      rintro _ _ ⟨rfl, rfl⟩
      refine ⟨Or.inr (Or.inr fun _ q => Or.inr (Or.inr q)), ?_⟩
      refine Goes.runS X [(.iadd, 1), (.aload 7, 2), (.iconst 3, 1), (.iload 6, 2), (.iload 10, 2)] (S' := [.int (1 : Int32), .int (1 : Int32), .int (3 : Int32), .ref a253, .int (((Int32.ofNat (own_badN 1 1 0 (own_cl c254))) + (Int32.ofNat (own_badN 1 1 1 (own_cl c255)))) + (Int32.ofNat (own_badN 1 1 2 (own_cl c256))))]) (pc' := 212) rfl ?_
      refine Goes.callS X 1 [0] [] (D_bad l Z a0 h0 hw a253 _ 1 1 3 (by decide) (by decide) (by decide) c257 rfl) (wd hw 57 rfl) (wd hw 58 rfl) (wd hw 4 rfl) (wd hw 59 rfl) pd_y_6 rfl (st := [.int (((Int32.ofNat (own_badN 1 1 0 (own_cl c254))) + (Int32.ofNat (own_badN 1 1 1 (own_cl c255)))) + (Int32.ofNat (own_badN 1 1 2 (own_cl c256))))]) rfl rfl (G := []) rfl rfl ?_
      rintro _ _ ⟨rfl, rfl⟩
      refine ⟨Or.inr (Or.inr fun _ q => Or.inr (Or.inr q)), ?_⟩
      refine Goes.runS X [(.iadd, 1), (.aload 7, 2), (.iconst 4, 1), (.iload 6, 2), (.iload 10, 2)] (S' := [.int (1 : Int32), .int (1 : Int32), .int (4 : Int32), .ref a253, .int ((((Int32.ofNat (own_badN 1 1 0 (own_cl c254))) + (Int32.ofNat (own_badN 1 1 1 (own_cl c255)))) + (Int32.ofNat (own_badN 1 1 2 (own_cl c256)))) + (Int32.ofNat (own_badN 1 1 3 (own_cl c257))))]) (pc' := 223) rfl ?_
      refine Goes.callS X 1 [0] [] (D_bad l Z a0 h0 hw a253 _ 1 1 4 (by decide) (by decide) (by decide) c258 rfl) (wd hw 57 rfl) (wd hw 58 rfl) (wd hw 4 rfl) (wd hw 59 rfl) pd_y_6 rfl (st := [.int ((((Int32.ofNat (own_badN 1 1 0 (own_cl c254))) + (Int32.ofNat (own_badN 1 1 1 (own_cl c255)))) + (Int32.ofNat (own_badN 1 1 2 (own_cl c256)))) + (Int32.ofNat (own_badN 1 1 3 (own_cl c257))))]) rfl rfl (G := []) rfl rfl ?_
      rintro _ _ ⟨rfl, rfl⟩
      refine ⟨Or.inr (Or.inr fun _ q => Or.inr (Or.inr q)), ?_⟩
      refine Goes.runS X [(.iadd, 1)] (S' := [.int (((((Int32.ofNat (own_badN 1 1 0 (own_cl c254))) + (Int32.ofNat (own_badN 1 1 1 (own_cl c255)))) + (Int32.ofNat (own_badN 1 1 2 (own_cl c256)))) + (Int32.ofNat (own_badN 1 1 3 (own_cl c257)))) + (Int32.ofNat (own_badN 1 1 4 (own_cl c258))))]) (pc' := 227) rfl ?_
      obtain ⟨bad, hbad⟩ : ∃ x, own_badL 1 1 [(own_cl c254)] = x := ⟨_, rfl⟩
      have lbad : bad ≤ 9 := hbad ▸ own_badL_le _ _ _
      rw [show (((((Int32.ofNat (own_badN 1 1 0 (own_cl c254))) + (Int32.ofNat (own_badN 1 1 1 (own_cl c255)))) + (Int32.ofNat (own_badN 1 1 2 (own_cl c256)))) + (Int32.ofNat (own_badN 1 1 3 (own_cl c257)))) + (Int32.ofNat (own_badN 1 1 4 (own_cl c258)))) = Int32.ofNat bad from by rw [← hbad]; simp only [← Int32.ofNat_add]; rfl]
      show Goes _ _ _ _ _ _ _ _ _ _ _ _ _ _ _ _ _ _ _ _ [(a253, ar "[C" .char [.int c254, .int c255, .int c256, .int c257, .int c258])] 16 399 (mkF m 227 #[.val (.int p0), .val (.int p1), .val (.int p2), .val (.int p3), .val (.int p4), .val (.int p5), .val (.int (1 : Int32)), .val (.ref a253), .val (.ref a259), .val (.int pv), .val (.int (1 : Int32)), .unset, .unset, .unset, .unset] [.int (Int32.ofNat bad)])
      refine Goes.run X [(.istore 11, 2), (.aload 7, 2), (.iconst 0, 1), (.iload 6, 2)] (L' := #[.val (.int p0), .val (.int p1), .val (.int p2), .val (.int p3), .val (.int p4), .val (.int p5), .val (.int (1 : Int32)), .val (.ref a253), .val (.ref a259), .val (.int pv), .val (.int (1 : Int32)), .val (.int (Int32.ofNat bad)), .unset, .unset, .unset]) (S' := [.int (1 : Int32), .int (0 : Int32), .ref a253]) (pc' := 234) rfl ?_
      refine Goes.callS X 0 [0] [] (D_dot l Z a0 h0 hw a253 _ 1 0 (by omega) (by decide) c254 rfl) (wd hw 60 rfl) (wd hw 61 rfl) (wd hw 4 rfl) (wd hw 62 rfl) pd_y_7 rfl (st := []) rfl rfl (G := []) rfl rfl ?_
      rintro _ _ ⟨rfl, rfl⟩
      refine ⟨Or.inr (Or.inr fun _ q => Or.inr (Or.inr q)), ?_⟩
      refine Goes.runS X [(.aload 7, 2), (.iconst 1, 1), (.iload 6, 2)] (S' := [.int (1 : Int32), .int (1 : Int32), .ref a253, .int (Int32.ofNat (own_dotN 1 0 (own_cl c254)))]) (pc' := 242) rfl ?_
      refine Goes.callS X 1 [0] [] (D_dot l Z a0 h0 hw a253 _ 1 1 (by omega) (by decide) c255 rfl) (wd hw 60 rfl) (wd hw 61 rfl) (wd hw 4 rfl) (wd hw 62 rfl) pd_y_7 rfl (st := [.int (Int32.ofNat (own_dotN 1 0 (own_cl c254)))]) rfl rfl (G := []) rfl rfl ?_
      rintro _ _ ⟨rfl, rfl⟩
      refine ⟨Or.inr (Or.inr fun _ q => Or.inr (Or.inr q)), ?_⟩
      refine Goes.runS X [(.iadd, 1), (.aload 7, 2), (.iconst 2, 1), (.iload 6, 2)] (S' := [.int (1 : Int32), .int (2 : Int32), .ref a253, .int ((Int32.ofNat (own_dotN 1 0 (own_cl c254))) + (Int32.ofNat (own_dotN 1 1 (own_cl c255))))]) (pc' := 251) rfl ?_
      refine Goes.callS X 1 [0] [] (D_dot l Z a0 h0 hw a253 _ 1 2 (by omega) (by decide) c256 rfl) (wd hw 60 rfl) (wd hw 61 rfl) (wd hw 4 rfl) (wd hw 62 rfl) pd_y_7 rfl (st := [.int ((Int32.ofNat (own_dotN 1 0 (own_cl c254))) + (Int32.ofNat (own_dotN 1 1 (own_cl c255))))]) rfl rfl (G := []) rfl rfl ?_
      rintro _ _ ⟨rfl, rfl⟩
      refine ⟨Or.inr (Or.inr fun _ q => Or.inr (Or.inr q)), ?_⟩
      refine Goes.runS X [(.iadd, 1), (.aload 7, 2), (.iconst 3, 1), (.iload 6, 2)] (S' := [.int (1 : Int32), .int (3 : Int32), .ref a253, .int (((Int32.ofNat (own_dotN 1 0 (own_cl c254))) + (Int32.ofNat (own_dotN 1 1 (own_cl c255)))) + (Int32.ofNat (own_dotN 1 2 (own_cl c256))))]) (pc' := 260) rfl ?_
      refine Goes.callS X 1 [0] [] (D_dot l Z a0 h0 hw a253 _ 1 3 (by omega) (by decide) c257 rfl) (wd hw 60 rfl) (wd hw 61 rfl) (wd hw 4 rfl) (wd hw 62 rfl) pd_y_7 rfl (st := [.int (((Int32.ofNat (own_dotN 1 0 (own_cl c254))) + (Int32.ofNat (own_dotN 1 1 (own_cl c255)))) + (Int32.ofNat (own_dotN 1 2 (own_cl c256))))]) rfl rfl (G := []) rfl rfl ?_
      rintro _ _ ⟨rfl, rfl⟩
      refine ⟨Or.inr (Or.inr fun _ q => Or.inr (Or.inr q)), ?_⟩
      refine Goes.runS X [(.iadd, 1), (.aload 7, 2), (.iconst 4, 1), (.iload 6, 2)] (S' := [.int (1 : Int32), .int (4 : Int32), .ref a253, .int ((((Int32.ofNat (own_dotN 1 0 (own_cl c254))) + (Int32.ofNat (own_dotN 1 1 (own_cl c255)))) + (Int32.ofNat (own_dotN 1 2 (own_cl c256)))) + (Int32.ofNat (own_dotN 1 3 (own_cl c257))))]) (pc' := 269) rfl ?_
      refine Goes.callS X 1 [0] [] (D_dot l Z a0 h0 hw a253 _ 1 4 (by omega) (by decide) c258 rfl) (wd hw 60 rfl) (wd hw 61 rfl) (wd hw 4 rfl) (wd hw 62 rfl) pd_y_7 rfl (st := [.int ((((Int32.ofNat (own_dotN 1 0 (own_cl c254))) + (Int32.ofNat (own_dotN 1 1 (own_cl c255)))) + (Int32.ofNat (own_dotN 1 2 (own_cl c256)))) + (Int32.ofNat (own_dotN 1 3 (own_cl c257))))]) rfl rfl (G := []) rfl rfl ?_
      rintro _ _ ⟨rfl, rfl⟩
      refine ⟨Or.inr (Or.inr fun _ q => Or.inr (Or.inr q)), ?_⟩
      refine Goes.runS X [(.iadd, 1)] (S' := [.int (((((Int32.ofNat (own_dotN 1 0 (own_cl c254))) + (Int32.ofNat (own_dotN 1 1 (own_cl c255)))) + (Int32.ofNat (own_dotN 1 2 (own_cl c256)))) + (Int32.ofNat (own_dotN 1 3 (own_cl c257)))) + (Int32.ofNat (own_dotN 1 4 (own_cl c258))))]) (pc' := 273) rfl ?_
      obtain ⟨dots, hdots⟩ : ∃ x, own_dotL 1 [(own_cl c254)] = x := ⟨_, rfl⟩
      have ldots : dots ≤ 9 := hdots ▸ own_dotL_le _ _
      rw [show (((((Int32.ofNat (own_dotN 1 0 (own_cl c254))) + (Int32.ofNat (own_dotN 1 1 (own_cl c255)))) + (Int32.ofNat (own_dotN 1 2 (own_cl c256)))) + (Int32.ofNat (own_dotN 1 3 (own_cl c257)))) + (Int32.ofNat (own_dotN 1 4 (own_cl c258)))) = Int32.ofNat dots from by rw [← hdots]; simp only [← Int32.ofNat_add]; rfl]
      show Goes _ _ _ _ _ _ _ _ _ _ _ _ _ _ _ _ _ _ _ _ [(a253, ar "[C" .char [.int c254, .int c255, .int c256, .int c257, .int c258])] 16 399 (mkF m 273 #[.val (.int p0), .val (.int p1), .val (.int p2), .val (.int p3), .val (.int p4), .val (.int p5), .val (.int (1 : Int32)), .val (.ref a253), .val (.ref a259), .val (.int pv), .val (.int (1 : Int32)), .val (.int (Int32.ofNat bad)), .unset, .unset, .unset] [.int (Int32.ofNat dots)])
      refine Goes.run X [(.istore 12, 2), (.aload 7, 2), (.iload 6, 2)] (L' := #[.val (.int p0), .val (.int p1), .val (.int p2), .val (.int p3), .val (.int p4), .val (.int p5), .val (.int (1 : Int32)), .val (.ref a253), .val (.ref a259), .val (.int pv), .val (.int (1 : Int32)), .val (.int (Int32.ofNat bad)), .val (.int (Int32.ofNat dots)), .unset, .unset]) (S' := [.int (1 : Int32), .ref a253]) (pc' := 279) rfl ?_
      refine Goes.callS X 0 [0] [] (D_fd l Z a0 h0 hw a253 c254 c255 c256 c257 c258 1 (by decide)) (wd hw 63 rfl) (wd hw 64 rfl) (wd hw 4 rfl) (wd hw 65 rfl) pd_y_8 rfl (st := []) rfl rfl (G := []) rfl rfl ?_
      rintro _ _ ⟨rfl, rfl⟩
      refine ⟨Or.inr (Or.inr fun _ q => Or.inr (Or.inr q)), ?_⟩
      obtain ⟨fd, hfd⟩ : ∃ x, own_fdL 1 [(own_cl c254)] = x := ⟨_, rfl⟩
      rw [show own_fdN 1 (own_cl c254) (own_cl c255) (own_cl c256) (own_cl c257) (own_cl c258) = fd from hfd]
      have lfd : fd ≤ 9 := hfd ▸ own_fdN_le _ _ _ _ _ _
      show Goes _ _ _ _ _ _ _ _ _ _ _ _ _ _ _ _ _ _ _ _ [(a253, ar "[C" .char [.int c254, .int c255, .int c256, .int c257, .int c258])] 16 399 (mkF m 282 #[.val (.int p0), .val (.int p1), .val (.int p2), .val (.int p3), .val (.int p4), .val (.int p5), .val (.int (1 : Int32)), .val (.ref a253), .val (.ref a259), .val (.int pv), .val (.int (1 : Int32)), .val (.int (Int32.ofNat bad)), .val (.int (Int32.ofNat dots)), .unset, .unset] [.int (own_fdI fd)])
      refine Goes.run X [(.istore 13, 2), (.iload 6, 2), (.iload 10, 2)] (L' := #[.val (.int p0), .val (.int p1), .val (.int p2), .val (.int p3), .val (.int p4), .val (.int p5), .val (.int (1 : Int32)), .val (.ref a253), .val (.ref a259), .val (.int pv), .val (.int (1 : Int32)), .val (.int (Int32.ofNat bad)), .val (.int (Int32.ofNat dots)), .val (.int (own_fdI fd)), .unset]) (S' := [.int (1 : Int32), .int (1 : Int32)]) (pc' := 288) rfl ?_
      refine Goes.if2 X (pc' := 327) (o := 39) (cd := .le) (fun _ => ?_) (fun q => absurd q (by decide))
      refine Goes.run X [(.iconst 0, 1), (.istore 14, 2), (.iload 9, 2), (.iload 14, 2)] (L' := #[.val (.int p0), .val (.int p1), .val (.int p2), .val (.int p3), .val (.int p4), .val (.int p5), .val (.int (1 : Int32)), .val (.ref a253), .val (.ref a259), .val (.int pv), .val (.int (1 : Int32)), .val (.int (Int32.ofNat bad)), .val (.int (Int32.ofNat dots)), .val (.int (own_fdI fd)), .val (.int (0 : Int32))]) (S' := [.int (0 : Int32), .int pv]) (pc' := 334) rfl ?_
      have hp302 : pv = 0 := by rw [← hpv, ha, own_refA]; simp [hbad, hdots, hfd]
      refine Goes.if2 X (pc' := 341) (o := 7) (cd := .ne) (fun q => absurd (q.symm.trans (by rw [hp302]; decide : if_icmp.holds .ne pv (0 : Int32) = false)) (by decide)) (fun _ => ?_)
      refine Goes.runS X [(.iconst 1, 1)] (S' := [.int (1 : Int32)]) (pc' := 338) rfl ?_
      refine Goes.goto X (o := 4) (pc' := 342) ?_
      refine Goes.retI X (by simp) rfl ?_
      exact rfl
  · refine Goes.runS X [(.iload_n 0, 1)] (S' := [.int p0]) (pc' := 1) rfl ?_
    refine Goes.ldcI X (wd hw 0 rfl) ?_
    refine Goes.run X [(.iand, 1), (.bipush 6, 2), (.irem, 1), (.istore 6, 2)] (L' := #[.val (.int p0), .val (.int p1), .val (.int p2), .val (.int p3), .val (.int p4), .val (.int p5), .val (.int ((p0 &&& (2147483647 : Int32)) % (6 : Int32))), .unset, .unset, .unset, .unset, .unset, .unset, .unset, .unset]) (S' := []) (pc' := 9) rfl ?_
    rw [e2]
    show Goes _ _ _ _ _ _ _ _ _ _ _ _ _ _ _ _ _ _ _ _ [] 0 0 (mkF m 9 #[.val (.int p0), .val (.int p1), .val (.int p2), .val (.int p3), .val (.int p4), .val (.int p5), .val (.int (2 : Int32)), .unset, .unset, .unset, .unset, .unset, .unset, .unset, .unset] [])
    refine Goes.runS X [(.iconst 5, 1)] (S' := [.int (5 : Int32)]) (pc' := 10) rfl ?_
    refine Goes.newarr X (aty := .char) "[C" 5 5 (wd hw 1 rfl) (by decide +kernel) (by decide) (by decide) (fun a303 => ?_)
    refine Goes.run X [(.astore 7, 2), (.aload 7, 2), (.iconst 0, 1), (.iload_n 1, 1)] (L' := #[.val (.int p0), .val (.int p1), .val (.int p2), .val (.int p3), .val (.int p4), .val (.int p5), .val (.int (2 : Int32)), .val (.ref a303), .unset, .unset, .unset, .unset, .unset, .unset, .unset]) (S' := [.int p1, .int (0 : Int32), .ref a303]) (pc' := 18) rfl ?_
    refine Goes.callSW X 2 [] [0] (D_pick l Z a0 h0 hw cs hCS hcs sio hSIO hsio p1) (wd hw 2 rfl) (wd hw 3 rfl) (wd hw 4 rfl) (wd hw 5 rfl) pd_y_0 rfl (st := [.int (0 : Int32), .ref a303]) rfl rfl (G := [(a303, ar "[C" .char [.int 0, .int 0, .int 0, .int 0, .int 0])]) rfl rfl ?_
    rintro _ _ vm0 k0 ⟨c304, rfl, h0c304, h1c304, rfl⟩ X
    refine ⟨Or.inr (Or.inr fun _ q => Or.inr (Or.inr q)), ?_⟩
    refine Goes.castore X 0 0 rfl (by decide) (by decide) (Nat.le_of_ble_eq_true rfl) ?_
    rw [own_nca h0c304 h1c304]
    refine Goes.runS X [(.aload 7, 2), (.iconst 1, 1), (.iload_n 2, 1)] (S' := [.int p2, .int (1 : Int32), .ref a303]) (pc' := 26) rfl ?_
    refine Goes.callSW X 2 [] [0] (D_pick l Z a0 h0 hw cs hCS hcs sio hSIO hsio p2) (wd hw 2 rfl) (wd hw 3 rfl) (wd hw 4 rfl) (wd hw 5 rfl) pd_y_0 rfl (st := [.int (1 : Int32), .ref a303]) rfl rfl (G := [(a303, ar "[C" .char [.int c304, .int 0, .int 0, .int 0, .int 0])]) rfl rfl ?_
    rintro _ _ vm0 k0 ⟨c305, rfl, h0c305, h1c305, rfl⟩ X
    refine ⟨Or.inr (Or.inr fun _ q => Or.inr (Or.inr q)), ?_⟩
    refine Goes.castore X 0 1 rfl (by decide) (by decide) (Nat.le_of_ble_eq_true rfl) ?_
    rw [own_nca h0c305 h1c305]
    refine Goes.runS X [(.aload 7, 2), (.iconst 2, 1), (.iload_n 3, 1)] (S' := [.int p3, .int (2 : Int32), .ref a303]) (pc' := 34) rfl ?_
    refine Goes.callSW X 2 [] [0] (D_pick l Z a0 h0 hw cs hCS hcs sio hSIO hsio p3) (wd hw 2 rfl) (wd hw 3 rfl) (wd hw 4 rfl) (wd hw 5 rfl) pd_y_0 rfl (st := [.int (2 : Int32), .ref a303]) rfl rfl (G := [(a303, ar "[C" .char [.int c304, .int c305, .int 0, .int 0, .int 0])]) rfl rfl ?_
    rintro _ _ vm0 k0 ⟨c306, rfl, h0c306, h1c306, rfl⟩ X
    refine ⟨Or.inr (Or.inr fun _ q => Or.inr (Or.inr q)), ?_⟩
    refine Goes.castore X 0 2 rfl (by decide) (by decide) (Nat.le_of_ble_eq_true rfl) ?_
    rw [own_nca h0c306 h1c306]
    refine Goes.runS X [(.aload 7, 2), (.iconst 3, 1), (.iload 4, 2)] (S' := [.int p4, .int (3 : Int32), .ref a303]) (pc' := 43) rfl ?_
    refine Goes.callSW X 2 [] [0] (D_pick l Z a0 h0 hw cs hCS hcs sio hSIO hsio p4) (wd hw 2 rfl) (wd hw 3 rfl) (wd hw 4 rfl) (wd hw 5 rfl) pd_y_0 rfl (st := [.int (3 : Int32), .ref a303]) rfl rfl (G := [(a303, ar "[C" .char [.int c304, .int c305, .int c306, .int 0, .int 0])]) rfl rfl ?_
    rintro _ _ vm0 k0 ⟨c307, rfl, h0c307, h1c307, rfl⟩ X
    refine ⟨Or.inr (Or.inr fun _ q => Or.inr (Or.inr q)), ?_⟩
    refine Goes.castore X 0 3 rfl (by decide) (by decide) (Nat.le_of_ble_eq_true rfl) ?_
    rw [own_nca h0c307 h1c307]
    refine Goes.runS X [(.aload 7, 2), (.iconst 4, 1), (.iload 5, 2)] (S' := [.int p5, .int (4 : Int32), .ref a303]) (pc' := 52) rfl ?_
    refine Goes.callSW X 2 [] [0] (D_pick l Z a0 h0 hw cs hCS hcs sio hSIO hsio p5) (wd hw 2 rfl) (wd hw 3 rfl) (wd hw 4 rfl) (wd hw 5 rfl) pd_y_0 rfl (st := [.int (4 : Int32), .ref a303]) rfl rfl (G := [(a303, ar "[C" .char [.int c304, .int c305, .int c306, .int c307, .int 0])]) rfl rfl ?_
    rintro _ _ vm0 k0 ⟨c308, rfl, h0c308, h1c308, rfl⟩ X
    refine ⟨Or.inr (Or.inr fun _ q => Or.inr (Or.inr q)), ?_⟩
    refine Goes.castore X 0 4 rfl (by decide) (by decide) (Nat.le_of_ble_eq_true rfl) ?_
    rw [own_nca h0c308 h1c308]
    refine Goes.new X _ (wd hw 6 rfl) (wd hw 7 rfl) (wd hw 8 rfl) (new_Dig hw) (fun a309 => ?_)
    refine Goes.runS X [(.dup, 1), (.iconst 0, 1)] (S' := [.int (0 : Int32), .ref a309, .ref a309]) (pc' := 61) rfl ?_
    refine Goes.callN X 1 [1] [0] (D_dctor l Z a0 h0 hw cs hCS hcs a309) rfl (wd hw 9 rfl) (wd hw 10 rfl) (wd hw 8 rfl) (wd hw 11 rfl) pd_y_1 rfl (st := [.ref a309]) rfl rfl (G := [(a303, ar "[C" .char [.int c304, .int c305, .int c306, .int c307, .int c308])]) rfl rfl ?_
    rintro _ _ ⟨u310, b311, h312, b313, rfl, rfl⟩
    refine ⟨Or.inl rfl, ?_⟩
    refine Goes.run X [(.astore 8, 2), (.iload 6, 2)] (L' := #[.val (.int p0), .val (.int p1), .val (.int p2), .val (.int p3), .val (.int p4), .val (.int p5), .val (.int (2 : Int32)), .val (.ref a303), .val (.ref a309), .unset, .unset, .unset, .unset, .unset, .unset]) (S' := [.int (2 : Int32)]) (pc' := 68) rfl ?_
    refine Goes.if1 X (pc' := 81) (o := 13) (cd := .le) (fun q => absurd q (by decide)) (fun _ => ?_)
    refine Goes.runS X [(.aload 8, 2), (.aload 7, 2), (.iconst 0, 1)] (S' := [.int (0 : Int32), .ref a303, .ref a309]) (pc' := 76) rfl ?_
    refine Goes.caload X 4 0 rfl (by decide) (by decide) rfl ?_
    refine Goes.callV X 0 0 [0, 1, 2, 3] [4] rfl (D_add l Z a0 h0 hw cs hCS hcs a309 u310 h312 b311 (.ref b313) 0 0 (Or.inl rfl : own_ok 0) 0 0 0 0 0 0 (by omega) (List.replicate 16 (.int 0)) (by decide) c304 (own_le h1c304)) (wd hw 66 rfl) (wd hw 67 rfl) (wd hw 69 rfl) (wd hw 68 rfl) (own_nf X (wd hw 69 rfl)) (wd hw 8 rfl) (wd hw 70 rfl) pd_y_9 rfl (st := []) rfl rfl (G := [(a303, ar "[C" .char [.int c304, .int c305, .int c306, .int c307, .int c308])]) rfl rfl ?_
    rintro _ _ ⟨r314, sg315, pl316, ne317, ed318, ex319, k320, bs321, rfl, hk322, hbs323, rfl⟩
    refine ⟨Or.inl rfl, ?_⟩
    obtain ⟨s324, hs325⟩ : ∃ z, (own_st 0 c304) = z := ⟨_, rfl⟩
    obtain ⟨e326, he327⟩ : ∃ z, (own_en 0 0 c304) = z := ⟨_, rfl⟩
    rw [hs325, he327]
    refine Goes.runS X [(.pop, 1), (.iload 6, 2), (.iconst 1, 1)] (S' := [.int (1 : Int32), .int (2 : Int32)]) (pc' := 84) rfl ?_
    refine Goes.if2 X (pc' := 97) (o := 13) (cd := .le) (fun q => absurd q (by decide)) (fun _ => ?_)
    refine Goes.runS X [(.aload 8, 2), (.aload 7, 2), (.iconst 1, 1)] (S' := [.int (1 : Int32), .ref a303, .ref a309]) (pc' := 92) rfl ?_
    refine Goes.caload X 4 1 rfl (by decide) (by decide) rfl ?_
    refine Goes.callV X 0 0 [0, 1, 2, 3] [4] rfl (D_add l Z a0 h0 hw cs hCS hcs a309 u310 h312 b311 (.ref b313) s324 e326 (hs325 ▸ own_st_ok c304 (Or.inl rfl : own_ok 0)) sg315 pl316 ne317 ed318 ex319 k320 (by omega) bs321 hbs323 c305 (own_le h1c305)) (wd hw 66 rfl) (wd hw 67 rfl) (wd hw 69 rfl) (wd hw 68 rfl) (own_nf X (wd hw 69 rfl)) (wd hw 8 rfl) (wd hw 70 rfl) pd_y_9 rfl (st := []) rfl rfl (G := [(a303, ar "[C" .char [.int c304, .int c305, .int c306, .int c307, .int c308])]) rfl rfl ?_
    rintro _ _ ⟨r328, sg329, pl330, ne331, ed332, ex333, k334, bs335, rfl, hk336, hbs337, rfl⟩
    refine ⟨Or.inl rfl, ?_⟩
    obtain ⟨s338, hs339⟩ : ∃ z, (own_st s324 c305) = z := ⟨_, rfl⟩
    obtain ⟨e340, he341⟩ : ∃ z, (own_en e326 s324 c305) = z := ⟨_, rfl⟩
    rw [hs339, he341]
    refine Goes.runS X [(.pop, 1), (.iload 6, 2), (.iconst 2, 1)] (S' := [.int (2 : Int32), .int (2 : Int32)]) (pc' := 100) rfl ?_
    refine Goes.if2 X (pc' := 113) (o := 13) (cd := .le) (fun _ => ?_) (fun q => absurd q (by decide))
    refine Goes.runS X [(.iload 6, 2), (.iconst 3, 1)] (S' := [.int (3 : Int32), .int (2 : Int32)]) (pc' := 116) rfl ?_
    refine Goes.if2 X (pc' := 129) (o := 13) (cd := .le) (fun _ => ?_) (fun q => absurd q (by decide))
    refine Goes.runS X [(.iload 6, 2), (.iconst 4, 1)] (S' := [.int (4 : Int32), .int (2 : Int32)]) (pc' := 132) rfl ?_
    refine Goes.if2 X (pc' := 145) (o := 13) (cd := .le) (fun _ => ?_) (fun q => absurd q (by decide))
    refine Goes.runS X [(.aload 8, 2)] (S' := [.ref a309]) (pc' := 147) rfl ?_
    refine Goes.callV X 0 0 [0] [1, 2, 3, 4] rfl (D_pl l Z a0 h0 hw a309 s338 e340 (.long sg329) (.long pl330) (.int ne331) (.int ed332) (.long ex333) (.ref u310) (.ref h312) (.int 0) (.int 0)) (wd hw 45 rfl) (wd hw 46 rfl) (wd hw 48 rfl) (wd hw 47 rfl) (own_nf X (wd hw 48 rfl)) (wd hw 8 rfl) (wd hw 49 rfl) pd_y_4 rfl (st := []) rfl rfl (G := [(u310, o_SB (.ref b311) (.int 0) (.int (Int32.ofNat k334))), (b311, oBs bs335), (h312, o_SB (.ref b313) (.int 0) (.int 0)), (a303, ar "[C" .char [.int c304, .int c305, .int c306, .int c307, .int c308])]) rfl rfl ?_
    rintro _ _ ⟨rfl, rfl⟩
    refine ⟨Or.inr (Or.inr fun _ q => Or.inr (Or.inr q)), ?_⟩
    obtain ⟨pv, hpv⟩ : ∃ z, own_pl s338 e340 = z := ⟨_, rfl⟩
    rw [hpv]
    subst he341
    subst hs339
    subst he327
    subst hs325
    rw [own_law2 c304 c305 0] at hpv
    refine Goes.sub [4] (G := [(a303, ar "[C" .char [.int c304, .int c305, .int c306, .int c307, .int c308])]) rfl ?_
    refine Goes.run X [(.istore 9, 2), (.iload 6, 2)] (L' := #[.val (.int p0), .val (.int p1), .val (.int p2), .val (.int p3), .val (.int p4), .val (.int p5), .val (.int (2 : Int32)), .val (.ref a303), .val (.ref a309), .val (.int pv), .unset, .unset, .unset, .unset, .unset]) (S' := [.int (2 : Int32)]) (pc' := 154) rfl ?_
    refine Goes.if1 X (pc' := 170) (o := 16) (cd := .le) (fun q => absurd q (by decide)) (fun _ => ?_)
    refine Goes.runS X [(.aload 7, 2), (.iconst 0, 1)] (S' := [.int (0 : Int32), .ref a303]) (pc' := 160) rfl ?_
    refine Goes.caload X 0 0 rfl (by decide) (by decide) rfl ?_
    refine Goes.runS X [(.bipush 45, 2)] (S' := [.int (45 : Int32), .int c304]) (pc' := 163) rfl ?_
    refine Goes.if2 X (pc' := 170) (o := 7) (cd := .ne) (fun q342 => ?_) (fun q342 => ?_)
    · have h343 : ¬ c304 = 45 := by simpa [if_icmp.holds] using q342
      have ha : own_refN 2 [(own_cl c304), (own_cl c305)] = own_refA 2 0 [(own_cl c304), (own_cl c305)] := congrArg (fun z => own_refA 2 z [(own_cl c304), (own_cl c305)]) (if_neg fun z => h343 ((own_cl0 _).mp z.2))
      refine Goes.runS X [(.iconst 0, 1)] (S' := [.int (0 : Int32)]) (pc' := 171) rfl ?_
      refine Goes.run X [(.istore 10, 2), (.aload 7, 2), (.iconst 0, 1), (.iload 6, 2), (.iload 10, 2)] (L' := #[.val (.int p0), .val (.int p1), .val (.int p2), .val (.int p3), .val (.int p4), .val (.int p5), .val (.int (2 : Int32)), .val (.ref a303), .val (.ref a309), .val (.int pv), .val (.int (0 : Int32)), .unset, .unset, .unset, .unset]) (S' := [.int (0 : Int32), .int (2 : Int32), .int (0 : Int32), .ref a303]) (pc' := 180) rfl ?_
      refine Goes.callS X 0 [0] [] (D_bad l Z a0 h0 hw a303 _ 2 0 0 (by decide) (by decide) (by decide) c304 rfl) (wd hw 57 rfl) (wd hw 58 rfl) (wd hw 4 rfl) (wd hw 59 rfl) pd_y_6 rfl (st := []) rfl rfl (G := []) rfl rfl ?_
      rintro _ _ ⟨rfl, rfl⟩
      refine ⟨Or.inr (Or.inr fun _ q => Or.inr (Or.inr q)), ?_⟩
      refine Goes.runS X [(.aload 7, 2), (.iconst 1, 1), (.iload 6, 2), (.iload 10, 2)] (S' := [.int (0 : Int32), .int (2 : Int32), .int (1 : Int32), .ref a303, .int (Int32.ofNat (own_badN 2 0 0 (own_cl c304)))]) (pc' := 190) rfl ?_
      refine Goes.callS X 1 [0] [] (D_bad l Z a0 h0 hw a303 _ 2 0 1 (by decide) (by decide) (by decide) c305 rfl) (wd hw 57 rfl) (wd hw 58 rfl) (wd hw 4 rfl) (wd hw 59 rfl) pd_y_6 rfl (st := [.int (Int32.ofNat (own_badN 2 0 0 (own_cl c304)))]) rfl rfl (G := []) rfl rfl ?_
      rintro _ _ ⟨rfl, rfl⟩
      refine ⟨Or.inr (Or.inr fun _ q => Or.inr (Or.inr q)), ?_⟩
      refine Goes.runS X [(.iadd, 1), (.aload 7, 2), (.iconst 2, 1), (.iload 6, 2), (.iload 10, 2)] (S' := [.int (0 : Int32), .int (2 : Int32), .int (2 : Int32), .ref a303, .int ((Int32.ofNat (own_badN 2 0 0 (own_cl c304))) + (Int32.ofNat (own_badN 2 0 1 (own_cl c305))))]) (pc' := 201) rfl ?_
      refine Goes.callS X 1 [0] [] (D_bad l Z a0 h0 hw a303 _ 2 0 2 (by decide) (by decide) (by decide) c306 rfl) (wd hw 57 rfl) (wd hw 58 rfl) (wd hw 4 rfl) (wd hw 59 rfl) pd_y_6 rfl (st := [.int ((Int32.ofNat (own_badN 2 0 0 (own_cl c304))) + (Int32.ofNat (own_badN 2 0 1 (own_cl c305))))]) rfl rfl (G := []) rfl rfl ?_
      rintro _ _ ⟨rfl, rfl⟩
      refine ⟨Or.inr (Or.inr fun _ q => Or.inr (Or.inr q)), ?_⟩
      refine Goes.runS X [(.iadd, 1), (.aload 7, 2), (.iconst 3, 1), (.iload 6, 2), (.iload 10, 2)] (S' := [.int (0 : Int32), .int (2 : Int32), .int (3 : Int32), .ref a303, .int (((Int32.ofNat (own_badN 2 0 0 (own_cl c304))) + (Int32.ofNat (own_badN 2 0 1 (own_cl c305)))) + (Int32.ofNat (own_badN 2 0 2 (own_cl c306))))]) (pc' := 212) rfl ?_
      refine Goes.callS X 1 [0] [] (D_bad l Z a0 h0 hw a303 _ 2 0 3 (by decide) (by decide) (by decide) c307 rfl) (wd hw 57 rfl) (wd hw 58 rfl) (wd hw 4 rfl) (wd hw 59 rfl) pd_y_6 rfl (st := [.int (((Int32.ofNat (own_badN 2 0 0 (own_cl c304))) + (Int32.ofNat (own_badN 2 0 1 (own_cl c305)))) + (Int32.ofNat (own_badN 2 0 2 (own_cl c306))))]) rfl rfl (G := []) rfl rfl ?_
      rintro _ _ ⟨rfl, rfl⟩
      refine ⟨Or.inr (Or.inr fun _ q => Or.inr (Or.inr q)), ?_⟩
      refine Goes.runS X [(.iadd, 1), (.aload 7, 2), (.iconst 4, 1), (.iload 6, 2), (.iload 10, 2)] (S' := [.int (0 : Int32), .int (2 : Int32), .int (4 : Int32), .ref a303, .int ((((Int32.ofNat (own_badN 2 0 0 (own_cl c304))) + (Int32.ofNat (own_badN 2 0 1 (own_cl c305)))) + (Int32.ofNat (own_badN 2 0 2 (own_cl c306)))) + (Int32.ofNat (own_badN 2 0 3 (own_cl c307))))]) (pc' := 223) rfl ?_
      refine Goes.callS X 1 [0] [] (D_bad l Z a0 h0 hw a303 _ 2 0 4 (by decide) (by decide) (by decide) c308 rfl) (wd hw 57 rfl) (wd hw 58 rfl) (wd hw 4 rfl) (wd hw 59 rfl) pd_y_6 rfl (st := [.int ((((Int32.ofNat (own_badN 2 0 0 (own_cl c304))) + (Int32.ofNat (own_badN 2 0 1 (own_cl c305)))) + (Int32.ofNat (own_badN 2 0 2 (own_cl c306)))) + (Int32.ofNat (own_badN 2 0 3 (own_cl c307))))]) rfl rfl (G := []) rfl rfl ?_
      rintro _ _ ⟨rfl, rfl⟩
      refine ⟨Or.inr (Or.inr fun _ q => Or.inr (Or.inr q)), ?_⟩
      refine Goes.runS X [(.iadd, 1)] (S' := [.int (((((Int32.ofNat (own_badN 2 0 0 (own_cl c304))) + (Int32.ofNat (own_badN 2 0 1 (own_cl c305)))) + (Int32.ofNat (own_badN 2 0 2 (own_cl c306)))) + (Int32.ofNat (own_badN 2 0 3 (own_cl c307)))) + (Int32.ofNat (own_badN 2 0 4 (own_cl c308))))]) (pc' := 227) rfl ?_
      obtain ⟨bad, hbad⟩ : ∃ x, own_badL 2 0 [(own_cl c304), (own_cl c305)] = x := ⟨_, rfl⟩
      have lbad : bad ≤ 9 := hbad ▸ own_badL_le _ _ _
      rw [show (((((Int32.ofNat (own_badN 2 0 0 (own_cl c304))) + (Int32.ofNat (own_badN 2 0 1 (own_cl c305)))) + (Int32.ofNat (own_badN 2 0 2 (own_cl c306)))) + (Int32.ofNat (own_badN 2 0 3 (own_cl c307)))) + (Int32.ofNat (own_badN 2 0 4 (own_cl c308)))) = Int32.ofNat bad from by rw [← hbad]; simp only [← Int32.ofNat_add]; rfl]
      show Goes _ _ _ _ _ _ _ _ _ _ _ _ _ _ _ _ _ _ _ _ [(a303, ar "[C" .char [.int c304, .int c305, .int c306, .int c307, .int c308])] 16 399 (mkF m 227 #[.val (.int p0), .val (.int p1), .val (.int p2), .val (.int p3), .val (.int p4), .val (.int p5), .val (.int (2 : Int32)), .val (.ref a303), .val (.ref a309), .val (.int pv), .val (.int (0 : Int32)), .unset, .unset, .unset, .unset] [.int (Int32.ofNat bad)])
      refine Goes.run X [(.istore 11, 2), (.aload 7, 2), (.iconst 0, 1), (.iload 6, 2)] (L' := #[.val (.int p0), .val (.int p1), .val (.int p2), .val (.int p3), .val (.int p4), .val (.int p5), .val (.int (2 : Int32)), .val (.ref a303), .val (.ref a309), .val (.int pv), .val (.int (0 : Int32)), .val (.int (Int32.ofNat bad)), .unset, .unset, .unset]) (S' := [.int (2 : Int32), .int (0 : Int32), .ref a303]) (pc' := 234) rfl ?_
      refine Goes.callS X 0 [0] [] (D_dot l Z a0 h0 hw a303 _ 2 0 (by omega) (by decide) c304 rfl) (wd hw 60 rfl) (wd hw 61 rfl) (wd hw 4 rfl) (wd hw 62 rfl) pd_y_7 rfl (st := []) rfl rfl (G := []) rfl rfl ?_
      rintro _ _ ⟨rfl, rfl⟩
      refine ⟨Or.inr (Or.inr fun _ q => Or.inr (Or.inr q)), ?_⟩
      refine Goes.runS X [(.aload 7, 2), (.iconst 1, 1), (.iload 6, 2)] (S' := [.int (2 : Int32), .int (1 : Int32), .ref a303, .int (Int32.ofNat (own_dotN 2 0 (own_cl c304)))]) (pc' := 242) rfl ?_
      refine Goes.callS X 1 [0] [] (D_dot l Z a0 h0 hw a303 _ 2 1 (by omega) (by decide) c305 rfl) (wd hw 60 rfl) (wd hw 61 rfl) (wd hw 4 rfl) (wd hw 62 rfl) pd_y_7 rfl (st := [.int (Int32.ofNat (own_dotN 2 0 (own_cl c304)))]) rfl rfl (G := []) rfl rfl ?_
      rintro _ _ ⟨rfl, rfl⟩
      refine ⟨Or.inr (Or.inr fun _ q => Or.inr (Or.inr q)), ?_⟩
      refine Goes.runS X [(.iadd, 1), (.aload 7, 2), (.iconst 2, 1), (.iload 6, 2)] (S' := [.int (2 : Int32), .int (2 : Int32), .ref a303, .int ((Int32.ofNat (own_dotN 2 0 (own_cl c304))) + (Int32.ofNat (own_dotN 2 1 (own_cl c305))))]) (pc' := 251) rfl ?_
      refine Goes.callS X 1 [0] [] (D_dot l Z a0 h0 hw a303 _ 2 2 (by omega) (by decide) c306 rfl) (wd hw 60 rfl) (wd hw 61 rfl) (wd hw 4 rfl) (wd hw 62 rfl) pd_y_7 rfl (st := [.int ((Int32.ofNat (own_dotN 2 0 (own_cl c304))) + (Int32.ofNat (own_dotN 2 1 (own_cl c305))))]) rfl rfl (G := []) rfl rfl ?_
      rintro _ _ ⟨rfl, rfl⟩
      refine ⟨Or.inr (Or.inr fun _ q => Or.inr (Or.inr q)), ?_⟩
      refine Goes.runS X [(.iadd, 1), (.aload 7, 2), (.iconst 3, 1), (.iload 6, 2)] (S' := [.int (2 : Int32), .int (3 : Int32), .ref a303, .int (((Int32.ofNat (own_dotN 2 0 (own_cl c304))) + (Int32.ofNat (own_dotN 2 1 (own_cl c305)))) + (Int32.ofNat (own_dotN 2 2 (own_cl c306))))]) (pc' := 260) rfl ?_
      refine Goes.callS X 1 [0] [] (D_dot l Z a0 h0 hw a303 _ 2 3 (by omega) (by decide) c307 rfl) (wd hw 60 rfl) (wd hw 61 rfl) (wd hw 4 rfl) (wd hw 62 rfl) pd_y_7 rfl (st := [.int (((Int32.ofNat (own_dotN 2 0 (own_cl c304))) + (Int32.ofNat (own_dotN 2 1 (own_cl c305)))) + (Int32.ofNat (own_dotN 2 2 (own_cl c306))))]) rfl rfl (G := []) rfl rfl ?_
      rintro _ _ ⟨rfl, rfl⟩
      refine ⟨Or.inr (Or.inr fun _ q => Or.inr (Or.inr q)), ?_⟩
      refine Goes.runS X [(.iadd, 1), (.aload 7, 2), (.iconst 4, 1), (.iload 6, 2)] (S' := [.int (2 : Int32), .int (4 : Int32), .ref a303, .int ((((Int32.ofNat (own_dotN 2 0 (own_cl c304))) + (Int32.ofNat (own_dotN 2 1 (own_cl c305)))) + (Int32.ofNat (own_dotN 2 2 (own_cl c306)))) + (Int32.ofNat (own_dotN 2 3 (own_cl c307))))]) (pc' := 269) rfl ?_
      refine Goes.callS X 1 [0] [] (D_dot l Z a0 h0 hw a303 _ 2 4 (by omega) (by decide) c308 rfl) (wd hw 60 rfl) (wd hw 61 rfl) (wd hw 4 rfl) (wd hw 62 rfl) pd_y_7 rfl (st := [.int ((((Int32.ofNat (own_dotN 2 0 (own_cl c304))) + (Int32.ofNat (own_dotN 2 1 (own_cl c305)))) + (Int32.ofNat (own_dotN 2 2 (own_cl c306)))) + (Int32.ofNat (own_dotN 2 3 (own_cl c307))))]) rfl rfl (G := []) rfl rfl ?_
      rintro _ _ ⟨rfl, rfl⟩
      refine ⟨Or.inr (Or.inr fun _ q => Or.inr (Or.inr q)), ?_⟩
      refine Goes.runS X [(.iadd, 1)] (S' := [.int (((((Int32.ofNat (own_dotN 2 0 (own_cl c304))) + (Int32.ofNat (own_dotN 2 1 (own_cl c305)))) + (Int32.ofNat (own_dotN 2 2 (own_cl c306)))) + (Int32.ofNat (own_dotN 2 3 (own_cl c307)))) + (Int32.ofNat (own_dotN 2 4 (own_cl c308))))]) (pc' := 273) rfl ?_
      obtain ⟨dots, hdots⟩ : ∃ x, own_dotL 2 [(own_cl c304), (own_cl c305)] = x := ⟨_, rfl⟩
      have ldots : dots ≤ 9 := hdots ▸ own_dotL_le _ _
      rw [show (((((Int32.ofNat (own_dotN 2 0 (own_cl c304))) + (Int32.ofNat (own_dotN 2 1 (own_cl c305)))) + (Int32.ofNat (own_dotN 2 2 (own_cl c306)))) + (Int32.ofNat (own_dotN 2 3 (own_cl c307)))) + (Int32.ofNat (own_dotN 2 4 (own_cl c308)))) = Int32.ofNat dots from by rw [← hdots]; simp only [← Int32.ofNat_add]; rfl]
      show Goes _ _ _ _ _ _ _ _ _ _ _ _ _ _ _ _ _ _ _ _ [(a303, ar "[C" .char [.int c304, .int c305, .int c306, .int c307, .int c308])] 16 399 (mkF m 273 #[.val (.int p0), .val (.int p1), .val (.int p2), .val (.int p3), .val (.int p4), .val (.int p5), .val (.int (2 : Int32)), .val (.ref a303), .val (.ref a309), .val (.int pv), .val (.int (0 : Int32)), .val (.int (Int32.ofNat bad)), .unset, .unset, .unset] [.int (Int32.ofNat dots)])
      refine Goes.run X [(.istore 12, 2), (.aload 7, 2), (.iload 6, 2)] (L' := #[.val (.int p0), .val (.int p1), .val (.int p2), .val (.int p3), .val (.int p4), .val (.int p5), .val (.int (2 : Int32)), .val (.ref a303), .val (.ref a309), .val (.int pv), .val (.int (0 : Int32)), .val (.int (Int32.ofNat bad)), .val (.int (Int32.ofNat dots)), .unset, .unset]) (S' := [.int (2 : Int32), .ref a303]) (pc' := 279) rfl ?_
      refine Goes.callS X 0 [0] [] (D_fd l Z a0 h0 hw a303 c304 c305 c306 c307 c308 2 (by decide)) (wd hw 63 rfl) (wd hw 64 rfl) (wd hw 4 rfl) (wd hw 65 rfl) pd_y_8 rfl (st := []) rfl rfl (G := []) rfl rfl ?_
      rintro _ _ ⟨rfl, rfl⟩
      refine ⟨Or.inr (Or.inr fun _ q => Or.inr (Or.inr q)), ?_⟩
      obtain ⟨fd, hfd⟩ : ∃ x, own_fdL 2 [(own_cl c304), (own_cl c305)] = x := ⟨_, rfl⟩
      rw [show own_fdN 2 (own_cl c304) (own_cl c305) (own_cl c306) (own_cl c307) (own_cl c308) = fd from hfd]
      have lfd : fd ≤ 9 := hfd ▸ own_fdN_le _ _ _ _ _ _
      show Goes _ _ _ _ _ _ _ _ _ _ _ _ _ _ _ _ _ _ _ _ [(a303, ar "[C" .char [.int c304, .int c305, .int c306, .int c307, .int c308])] 16 399 (mkF m 282 #[.val (.int p0), .val (.int p1), .val (.int p2), .val (.int p3), .val (.int p4), .val (.int p5), .val (.int (2 : Int32)), .val (.ref a303), .val (.ref a309), .val (.int pv), .val (.int (0 : Int32)), .val (.int (Int32.ofNat bad)), .val (.int (Int32.ofNat dots)), .unset, .unset] [.int (own_fdI fd)])
      refine Goes.run X [(.istore 13, 2), (.iload 6, 2), (.iload 10, 2)] (L' := #[.val (.int p0), .val (.int p1), .val (.int p2), .val (.int p3), .val (.int p4), .val (.int p5), .val (.int (2 : Int32)), .val (.ref a303), .val (.ref a309), .val (.int pv), .val (.int (0 : Int32)), .val (.int (Int32.ofNat bad)), .val (.int (Int32.ofNat dots)), .val (.int (own_fdI fd)), .unset]) (S' := [.int (0 : Int32), .int (2 : Int32)]) (pc' := 288) rfl ?_
      refine Goes.if2 X (pc' := 327) (o := 39) (cd := .le) (fun q => absurd q (by decide)) (fun _ => ?_)
      refine Goes.runS X [(.iload 11, 2)] (S' := [.int (Int32.ofNat bad)]) (pc' := 293) rfl ?_
      refine Goes.if1 X (pc' := 327) (o := 34) (cd := .ne) (fun q344 => ?_) (fun q344 => ?_)
      · have h345 := own_sT (own_s0 _ lbad) q344
        refine Goes.run X [(.iconst 0, 1), (.istore 14, 2), (.iload 9, 2), (.iload 14, 2)] (L' := #[.val (.int p0), .val (.int p1), .val (.int p2), .val (.int p3), .val (.int p4), .val (.int p5), .val (.int (2 : Int32)), .val (.ref a303), .val (.ref a309), .val (.int pv), .val (.int (0 : Int32)), .val (.int (Int32.ofNat bad)), .val (.int (Int32.ofNat dots)), .val (.int (own_fdI fd)), .val (.int (0 : Int32))]) (S' := [.int (0 : Int32), .int pv]) (pc' := 334) rfl ?_
        have hp346 : pv = 0 := by rw [← hpv, ha, own_refA]; simp [hbad, hdots, hfd, h345]
        refine Goes.if2 X (pc' := 341) (o := 7) (cd := .ne) (fun q => absurd (q.symm.trans (by rw [hp346]; decide : if_icmp.holds .ne pv (0 : Int32) = false)) (by decide)) (fun _ => ?_)
        refine Goes.runS X [(.iconst 1, 1)] (S' := [.int (1 : Int32)]) (pc' := 338) rfl ?_
        refine Goes.goto X (o := 4) (pc' := 342) ?_
        refine Goes.retI X (by simp) rfl ?_
        exact rfl
      · have h347 := own_sF (own_s0 _ lbad) q344
        have h347 := Classical.not_not.mp h347
        refine Goes.runS X [(.iload 12, 2), (.iconst 1, 1)] (S' := [.int (1 : Int32), .int (Int32.ofNat dots)]) (pc' := 299) rfl ?_
        refine Goes.if2 X (pc' := 327) (o := 28) (cd := .gt) (fun q348 => ?_) (fun q348 => ?_)
        · have h349 := own_sT (own_s1 _ ldots) q348
          refine Goes.run X [(.iconst 0, 1), (.istore 14, 2), (.iload 9, 2), (.iload 14, 2)] (L' := #[.val (.int p0), .val (.int p1), .val (.int p2), .val (.int p3), .val (.int p4), .val (.int p5), .val (.int (2 : Int32)), .val (.ref a303), .val (.ref a309), .val (.int pv), .val (.int (0 : Int32)), .val (.int (Int32.ofNat bad)), .val (.int (Int32.ofNat dots)), .val (.int (own_fdI fd)), .val (.int (0 : Int32))]) (S' := [.int (0 : Int32), .int pv]) (pc' := 334) rfl ?_
          have hp350 : pv = 0 := by rw [← hpv, ha, own_refA]; simp [hbad, hdots, hfd, h347, h349]
          refine Goes.if2 X (pc' := 341) (o := 7) (cd := .ne) (fun q => absurd (q.symm.trans (by rw [hp350]; decide : if_icmp.holds .ne pv (0 : Int32) = false)) (by decide)) (fun _ => ?_)
          refine Goes.runS X [(.iconst 1, 1)] (S' := [.int (1 : Int32)]) (pc' := 338) rfl ?_
          refine Goes.goto X (o := 4) (pc' := 342) ?_
          refine Goes.retI X (by simp) rfl ?_
          exact rfl
        · have h351 := own_sF (own_s1 _ ldots) q348
          refine Goes.runS X [(.iload 12, 2)] (S' := [.int (Int32.ofNat dots)]) (pc' := 304) rfl ?_
          refine Goes.if1 X (pc' := 323) (o := 19) (cd := .eq) (fun q352 => ?_) (fun q352 => ?_)
          · have h353 := own_sT (own_s0' _ ldots) q352
            refine Goes.runS X [(.iconst 1, 1)] (S' := [.int (1 : Int32)]) (pc' := 324) rfl ?_
            refine Goes.goto X (o := 4) (pc' := 328) ?_
            refine Goes.run X [(.istore 14, 2), (.iload 9, 2), (.iload 14, 2)] (L' := #[.val (.int p0), .val (.int p1), .val (.int p2), .val (.int p3), .val (.int p4), .val (.int p5), .val (.int (2 : Int32)), .val (.ref a303), .val (.ref a309), .val (.int pv), .val (.int (0 : Int32)), .val (.int (Int32.ofNat bad)), .val (.int (Int32.ofNat dots)), .val (.int (own_fdI fd)), .val (.int (1 : Int32))]) (S' := [.int (1 : Int32), .int pv]) (pc' := 334) rfl ?_
            have hp354 : pv = 1 := by rw [← hpv, ha, own_refA]; simp [hbad, hdots, hfd, h347, h351, h353]
            refine Goes.if2 X (pc' := 341) (o := 7) (cd := .ne) (fun q => absurd (q.symm.trans (by rw [hp354]; decide : if_icmp.holds .ne pv (1 : Int32) = false)) (by decide)) (fun _ => ?_)
            refine Goes.runS X [(.iconst 1, 1)] (S' := [.int (1 : Int32)]) (pc' := 338) rfl ?_
            refine Goes.goto X (o := 4) (pc' := 342) ?_
            refine Goes.retI X (by simp) rfl ?_
            exact rfl
          · have h355 := own_sF (own_s0' _ ldots) q352
            refine Goes.runS X [(.iload 13, 2), (.iload 10, 2)] (S' := [.int (0 : Int32), .int (own_fdI fd)]) (pc' := 311) rfl ?_
            refine Goes.if2 X (pc' := 327) (o := 16) (cd := .eq) (fun q356 => ?_) (fun q356 => ?_)
            · have h357 := own_sT (own_s3 _ lfd 0 (by decide)) q356
              refine Goes.run X [(.iconst 0, 1), (.istore 14, 2), (.iload 9, 2), (.iload 14, 2)] (L' := #[.val (.int p0), .val (.int p1), .val (.int p2), .val (.int p3), .val (.int p4), .val (.int p5), .val (.int (2 : Int32)), .val (.ref a303), .val (.ref a309), .val (.int pv), .val (.int (0 : Int32)), .val (.int (Int32.ofNat bad)), .val (.int (Int32.ofNat dots)), .val (.int (own_fdI fd)), .val (.int (0 : Int32))]) (S' := [.int (0 : Int32), .int pv]) (pc' := 334) rfl ?_
              have hp358 : pv = 0 := by rw [← hpv, ha, own_refA]; simp [hbad, hdots, hfd, h347, h351, h355, h357]
              refine Goes.if2 X (pc' := 341) (o := 7) (cd := .ne) (fun q => absurd (q.symm.trans (by rw [hp358]; decide : if_icmp.holds .ne pv (0 : Int32) = false)) (by decide)) (fun _ => ?_)
              refine Goes.runS X [(.iconst 1, 1)] (S' := [.int (1 : Int32)]) (pc' := 338) rfl ?_
              refine Goes.goto X (o := 4) (pc' := 342) ?_
              refine Goes.retI X (by simp) rfl ?_
              exact rfl
            · have h359 := own_sF (own_s3 _ lfd 0 (by decide)) q356
              refine Goes.runS X [(.iload 13, 2), (.iload 6, 2), (.iconst 1, 1), (.isub, 1)] (S' := [.int (1 : Int32), .int (own_fdI fd)]) (pc' := 320) rfl ?_
              refine Goes.if2 X (pc' := 327) (o := 7) (cd := .eq) (fun q360 => ?_) (fun q360 => ?_)
              · have h361 := own_sT (own_s3 _ lfd 1 (by decide)) q360
                refine Goes.run X [(.iconst 0, 1), (.istore 14, 2), (.iload 9, 2), (.iload 14, 2)] (L' := #[.val (.int p0), .val (.int p1), .val (.int p2), .val (.int p3), .val (.int p4), .val (.int p5), .val (.int (2 : Int32)), .val (.ref a303), .val (.ref a309), .val (.int pv), .val (.int (0 : Int32)), .val (.int (Int32.ofNat bad)), .val (.int (Int32.ofNat dots)), .val (.int (own_fdI fd)), .val (.int (0 : Int32))]) (S' := [.int (0 : Int32), .int pv]) (pc' := 334) rfl ?_
                have hp362 : pv = 0 := by rw [← hpv, ha, own_refA]; simp [hbad, hdots, hfd, h347, h351, h355, h359, h361]
                refine Goes.if2 X (pc' := 341) (o := 7) (cd := .ne) (fun q => absurd (q.symm.trans (by rw [hp362]; decide : if_icmp.holds .ne pv (0 : Int32) = false)) (by decide)) (fun _ => ?_)
                refine Goes.runS X [(.iconst 1, 1)] (S' := [.int (1 : Int32)]) (pc' := 338) rfl ?_
                refine Goes.goto X (o := 4) (pc' := 342) ?_
                refine Goes.retI X (by simp) rfl ?_
                exact rfl
              · have h363 := own_sF (own_s3 _ lfd 1 (by decide)) q360
                refine Goes.runS X [(.iconst 1, 1)] (S' := [.int (1 : Int32)]) (pc' := 324) rfl ?_
                refine Goes.goto X (o := 4) (pc' := 328) ?_
                refine Goes.run X [(.istore 14, 2), (.iload 9, 2), (.iload 14, 2)] (L' := #[.val (.int p0), .val (.int p1), .val (.int p2), .val (.int p3), .val (.int p4), .val (.int p5), .val (.int (2 : Int32)), .val (.ref a303), .val (.ref a309), .val (.int pv), .val (.int (0 : Int32)), .val (.int (Int32.ofNat bad)), .val (.int (Int32.ofNat dots)), .val (.int (own_fdI fd)), .val (.int (1 : Int32))]) (S' := [.int (1 : Int32), .int pv]) (pc' := 334) rfl ?_
                have hp364 : pv = 1 := by rw [← hpv, ha, own_refA]; simp [hbad, hdots, hfd, h347, h351, h355, h359, h363]
                refine Goes.if2 X (pc' := 341) (o := 7) (cd := .ne) (fun q => absurd (q.symm.trans (by rw [hp364]; decide : if_icmp.holds .ne pv (1 : Int32) = false)) (by decide)) (fun _ => ?_)
                refine Goes.runS X [(.iconst 1, 1)] (S' := [.int (1 : Int32)]) (pc' := 338) rfl ?_
                refine Goes.goto X (o := 4) (pc' := 342) ?_
                refine Goes.retI X (by simp) rfl ?_
                exact rfl
    · have h365 : c304 = 45 := by simpa [if_icmp.holds] using q342
      have ha : own_refN 2 [(own_cl c304), (own_cl c305)] = own_refA 2 1 [(own_cl c304), (own_cl c305)] := congrArg (fun z => own_refA 2 z [(own_cl c304), (own_cl c305)]) (if_pos ⟨by decide, (own_cl0 _).mpr h365⟩)
      refine Goes.runS X [(.iconst 1, 1)] (S' := [.int (1 : Int32)]) (pc' := 167) rfl ?_
      refine Goes.goto X (o := 4) (pc' := 171) ?_
      refine Goes.run X [(.istore 10, 2), (.aload 7, 2), (.iconst 0, 1), (.iload 6, 2), (.iload 10, 2)] (L' := #[.val (.int p0), .val (.int p1), .val (.int p2), .val (.int p3), .val (.int p4), .val (.int p5), .val (.int (2 : Int32)), .val (.ref a303), .val (.ref a309), .val (.int pv), .val (.int (1 : Int32)), .unset, .unset, .unset, .unset]) (S' := [.int (1 : Int32), .int (2 : Int32), .int (0 : Int32), .ref a303]) (pc' := 180) rfl ?_
      refine Goes.callS X 0 [0] [] (D_bad l Z a0 h0 hw a303 _ 2 1 0 (by decide) (by decide) (by decide) c304 rfl) (wd hw 57 rfl) (wd hw 58 rfl) (wd hw 4 rfl) (wd hw 59 rfl) pd_y_6 rfl (st := []) rfl rfl (G := []) rfl rfl ?_
      rintro _ _ ⟨rfl, rfl⟩
      refine ⟨Or.inr (Or.inr fun _ q => Or.inr (Or.inr q)), ?_⟩
      refine Goes.runS X [(.aload 7, 2), (.iconst 1, 1), (.iload 6, 2), (.iload 10, 2)] (S' := [.int (1 : Int32), .int (2 : Int32), .int (1 : Int32), .ref a303, .int (Int32.ofNat (own_badN 2 1 0 (own_cl c304)))]) (pc' := 190) rfl ?_
      refine Goes.callS X 1 [0] [] (D_bad l Z a0 h0 hw a303 _ 2 1 1 (by decide) (by decide) (by decide) c305 rfl) (wd hw 57 rfl) (wd hw 58 rfl) (wd hw 4 rfl) (wd hw 59 rfl) pd_y_6 rfl (st := [.int (Int32.ofNat (own_badN 2 1 0 (own_cl c304)))]) rfl rfl (G := []) rfl rfl ?_
      rintro _ _ ⟨rfl, rfl⟩
      refine ⟨Or.inr (Or.inr fun _ q => Or.inr (Or.inr q)), ?_⟩
      refine Goes.runS X [(.iadd, 1), (.aload 7, 2), (.iconst 2, 1), (.iload 6, 2), (.iload 10, 2)] (S' := [.int (1 : Int32), .int (2 : Int32), .int (2 : Int32), .ref a303, .int ((Int32.ofNat (own_badN 2 1 0 (own_cl c304))) + (Int32.ofNat (own_badN 2 1 1 (own_cl c305))))]) (pc' := 201) rfl ?_
      refine Goes.callS X 1 [0] [] (D_bad l Z a0 h0 hw a303 _ 2 1 2 (by decide) (by decide) (by decide) c306 rfl) (wd hw 57 rfl) (wd hw 58 rfl) (wd hw 4 rfl) (wd hw 59 rfl) pd_y_6 rfl (st := [.int ((Int32.ofNat (own_badN 2 1 0 (own_cl c304))) + (Int32.ofNat (own_badN 2 1 1 (own_cl c305))))]) rfl rfl (G := []) rfl rfl ?_
      rintro _ _ ⟨rfl, rfl⟩
      refine ⟨Or.inr (Or.inr fun _ q => Or.inr (Or.inr q)), ?_⟩
      refine Goes.runS X [(.iadd, 1), (.aload 7, 2), (.iconst 3, 1), (.iload 6, 2), (.iload 10, 2)] (S' := [.int (1 : Int32), .int (2 : Int32), .int (3 : Int32), .ref a303, .int (((Int32.ofNat (own_badN 2 1 0 (own_cl c304))) + (Int32.ofNat (own_badN 2 1 1 (own_cl c305)))) + (Int32.ofNat (own_badN 2 1 2 (own_cl c306))))]) (pc' := 212) rfl ?_
      refine Goes.callS X 1 [0] [] (D_bad l Z a0 h0 hw a303 _ 2 1 3 (by decide) (by decide) (by decide) c307 rfl) (wd hw 57 rfl) (wd hw 58 rfl) (wd hw 4 rfl) (wd hw 59 rfl) pd_y_6 rfl (st := [.int (((Int32.ofNat (own_badN 2 1 0 (own_cl c304))) + (Int32.ofNat (own_badN 2 1 1 (own_cl c305)))) + (Int32.ofNat (own_badN 2 1 2 (own_cl c306))))]) rfl rfl (G := []) rfl rfl ?_
      rintro _ _ ⟨rfl, rfl⟩
      refine ⟨Or.inr (Or.inr fun _ q => Or.inr (Or.inr q)), ?_⟩
      refine Goes.runS X [(.iadd, 1), (.aload 7, 2), (.iconst 4, 1), (.iload 6, 2), (.iload 10, 2)] (S' := [.int (1 : Int32), .int (2 : Int32), .int (4 : Int32), .ref a303, .int ((((Int32.ofNat (own_badN 2 1 0 (own_cl c304))) + (Int32.ofNat (own_badN 2 1 1 (own_cl c305)))) + (Int32.ofNat (own_badN 2 1 2 (own_cl c306)))) + (Int32.ofNat (own_badN 2 1 3 (own_cl c307))))]) (pc' := 223) rfl ?_
      refine Goes.callS X 1 [0] [] (D_bad l Z a0 h0 hw a303 _ 2 1 4 (by decide) (by decide) (by decide) c308 rfl) (wd hw 57 rfl) (wd hw 58 rfl) (wd hw 4 rfl) (wd hw 59 rfl) pd_y_6 rfl (st := [.int ((((Int32.ofNat (own_badN 2 1 0 (own_cl c304))) + (Int32.ofNat (own_badN 2 1 1 (own_cl c305)))) + (Int32.ofNat (own_badN 2 1 2 (own_cl c306)))) + (Int32.ofNat (own_badN 2 1 3 (own_cl c307))))]) rfl rfl (G := []) rfl rfl ?_
      rintro _ _ ⟨rfl, rfl⟩
      refine ⟨Or.inr (Or.inr fun _ q => Or.inr (Or.inr q)), ?_⟩
      refine Goes.runS X [(.iadd, 1)] (S' := [.int (((((Int32.ofNat (own_badN 2 1 0 (own_cl c304))) + (Int32.ofNat (own_badN 2 1 1 (own_cl c305)))) + (Int32.ofNat (own_badN 2 1 2 (own_cl c306)))) + (Int32.ofNat (own_badN 2 1 3 (own_cl c307)))) + (Int32.ofNat (own_badN 2 1 4 (own_cl c308))))]) (pc' := 227) rfl ?_
      obtain ⟨bad, hbad⟩ : ∃ x, own_badL 2 1 [(own_cl c304), (own_cl c305)] = x := ⟨_, rfl⟩
      have lbad : bad ≤ 9 := hbad ▸ own_badL_le _ _ _
      rw [show (((((Int32.ofNat (own_badN 2 1 0 (own_cl c304))) + (Int32.ofNat (own_badN 2 1 1 (own_cl c305)))) + (Int32.ofNat (own_badN 2 1 2 (own_cl c306)))) + (Int32.ofNat (own_badN 2 1 3 (own_cl c307)))) + (Int32.ofNat (own_badN 2 1 4 (own_cl c308)))) = Int32.ofNat bad from by rw [← hbad]; simp only [← Int32.ofNat_add]; rfl]
      show Goes _ _ _ _ _ _ _ _ _ _ _ _ _ _ _ _ _ _ _ _ [(a303, ar "[C" .char [.int c304, .int c305, .int c306, .int c307, .int c308])] 16 399 (mkF m 227 #[.val (.int p0), .val (.int p1), .val (.int p2), .val (.int p3), .val (.int p4), .val (.int p5), .val (.int (2 : Int32)), .val (.ref a303), .val (.ref a309), .val (.int pv), .val (.int (1 : Int32)), .unset, .unset, .unset, .unset] [.int (Int32.ofNat bad)])
      refine Goes.run X [(.istore 11, 2), (.aload 7, 2), (.iconst 0, 1), (.iload 6, 2)] (L' := #[.val (.int p0), .val (.int p1), .val (.int p2), .val (.int p3), .val (.int p4), .val (.int p5), .val (.int (2 : Int32)), .val (.ref a303), .val (.ref a309), .val (.int pv), .val (.int (1 : Int32)), .val (.int (Int32.ofNat bad)), .unset, .unset, .unset]) (S' := [.int (2 : Int32), .int (0 : Int32), .ref a303]) (pc' := 234) rfl ?_
      refine Goes.callS X 0 [0] [] (D_dot l Z a0 h0 hw a303 _ 2 0 (by omega) (by decide) c304 rfl) (wd hw 60 rfl) (wd hw 61 rfl) (wd hw 4 rfl) (wd hw 62 rfl) pd_y_7 rfl (st := []) rfl rfl (G := []) rfl rfl ?_
      rintro _ _ ⟨rfl, rfl⟩
      refine ⟨Or.inr (Or.inr fun _ q => Or.inr (Or.inr q)), ?_⟩
      refine Goes.runS X [(.aload 7, 2), (.iconst 1, 1), (.iload 6, 2)] (S' := [.int (2 : Int32), .int (1 : Int32), .ref a303, .int (Int32.ofNat (own_dotN 2 0 (own_cl c304)))]) (pc' := 242) rfl ?_
      refine Goes.callS X 1 [0] [] (D_dot l Z a0 h0 hw a303 _ 2 1 (by omega) (by decide) c305 rfl) (wd hw 60 rfl) (wd hw 61 rfl) (wd hw 4 rfl) (wd hw 62 rfl) pd_y_7 rfl (st := [.int (Int32.ofNat (own_dotN 2 0 (own_cl c304)))]) rfl rfl (G := []) rfl rfl ?_
      rintro _ _ ⟨rfl, rfl⟩
      refine ⟨Or.inr (Or.inr fun _ q => Or.inr (Or.inr q)), ?_⟩
      refine Goes.runS X [(.iadd, 1), (.aload 7, 2), (.iconst 2, 1), (.iload 6, 2)] (S' := [.int (2 : Int32), .int (2 : Int32), .ref a303, .int ((Int32.ofNat (own_dotN 2 0 (own_cl c304))) + (Int32.ofNat (own_dotN 2 1 (own_cl c305))))]) (pc' := 251) rfl ?_
      refine Goes.callS X 1 [0] [] (D_dot l Z a0 h0 hw a303 _ 2 2 (by omega) (by decide) c306 rfl) (wd hw 60 rfl) (wd hw 61 rfl) (wd hw 4 rfl) (wd hw 62 rfl) pd_y_7 rfl (st := [.int ((Int32.ofNat (own_dotN 2 0 (own_cl c304))) + (Int32.ofNat (own_dotN 2 1 (own_cl c305))))]) rfl rfl (G := []) rfl rfl ?_
      rintro _ _ ⟨rfl, rfl⟩
      refine ⟨Or.inr (Or.inr fun _ q => Or.inr (Or.inr q)), ?_⟩
      refine Goes.runS X [(.iadd, 1), (.aload 7, 2), (.iconst 3, 1), (.iload 6, 2)] (S' := [.int (2 : Int32), .int (3 : Int32), .ref a303, .int (((Int32.ofNat (own_dotN 2 0 (own_cl c304))) + (Int32.ofNat (own_dotN 2 1 (own_cl c305)))) + (Int32.ofNat (own_dotN 2 2 (own_cl c306))))]) (pc' := 260) rfl ?_
      refine Goes.callS X 1 [0] [] (D_dot l Z a0 h0 hw a303 _ 2 3 (by omega) (by decide) c307 rfl) (wd hw 60 rfl) (wd hw 61 rfl) (wd hw 4 rfl) (wd hw 62 rfl) pd_y_7 rfl (st := [.int (((Int32.ofNat (own_dotN 2 0 (own_cl c304))) + (Int32.ofNat (own_dotN 2 1 (own_cl c305)))) + (Int32.ofNat (own_dotN 2 2 (own_cl c306))))]) rfl rfl (G := []) rfl rfl ?_
      rintro _ _ ⟨rfl, rfl⟩
      refine ⟨Or.inr (Or.inr fun _ q => Or.inr (Or.inr q)), ?_⟩
      refine Goes.runS X [(.iadd, 1), (.aload 7, 2), (.iconst 4, 1), (.iload 6, 2)] (S' := [.int (2 : Int32), .int (4 : Int32), .ref a303, .int ((((Int32.ofNat (own_dotN 2 0 (own_cl c304))) + (Int32.ofNat (own_dotN 2 1 (own_cl c305)))) + (Int32.ofNat (own_dotN 2 2 (own_cl c306)))) + (Int32.ofNat (own_dotN 2 3 (own_cl c307))))]) (pc' := 269) rfl ?_
      refine Goes.callS X 1 [0] [] (D_dot l Z a0 h0 hw a303 _ 2 4 (by omega) (by decide) c308 rfl) (wd hw 60 rfl) (wd hw 61 rfl) (wd hw 4 rfl) (wd hw 62 rfl) pd_y_7 rfl (st := [.int ((((Int32.ofNat (own_dotN 2 0 (own_cl c304))) + (Int32.ofNat (own_dotN 2 1 (own_cl c305)))) + (Int32.ofNat (own_dotN 2 2 (own_cl c306)))) + (Int32.ofNat (own_dotN 2 3 (own_cl c307))))]) rfl rfl (G := []) rfl rfl ?_
      rintro _ _ ⟨rfl, rfl⟩
      refine ⟨Or.inr (Or.inr fun _ q => Or.inr (Or.inr q)), ?_⟩
      refine Goes.runS X [(.iadd, 1)] (S' := [.int (((((Int32.ofNat (own_dotN 2 0 (own_cl c304))) + (Int32.ofNat (own_dotN 2 1 (own_cl c305)))) + (Int32.ofNat (own_dotN 2 2 (own_cl c306)))) + (Int32.ofNat (own_dotN 2 3 (own_cl c307)))) + (Int32.ofNat (own_dotN 2 4 (own_cl c308))))]) (pc' := 273) rfl ?_
      obtain ⟨dots, hdots⟩ : ∃ x, own_dotL 2 [(own_cl c304), (own_cl c305)] = x := ⟨_, rfl⟩
      have ldots : dots ≤ 9 := hdots ▸ own_dotL_le _ _
      rw [show (((((Int32.ofNat (own_dotN 2 0 (own_cl c304))) + (Int32.ofNat (own_dotN 2 1 (own_cl c305)))) + (Int32.ofNat (own_dotN 2 2 (own_cl c306)))) + (Int32.ofNat (own_dotN 2 3 (own_cl c307)))) + (Int32.ofNat (own_dotN 2 4 (own_cl c308)))) = Int32.ofNat dots from by rw [← hdots]; simp only [← Int32.ofNat_add]; rfl]
      show Goes _ _ _ _ _ _ _ _ _ _ _ _ _ _ _ _ _ _ _ _ [(a303, ar "[C" .char [.int c304, .int c305, .int c306, .int c307, .int c308])] 16 399 (mkF m 273 #[.val (.int p0), .val (.int p1), .val (.int p2), .val (.int p3), .val (.int p4), .val (.int p5), .val (.int (2 : Int32)), .val (.ref a303), .val (.ref a309), .val (.int pv), .val (.int (1 : Int32)), .val (.int (Int32.ofNat bad)), .unset, .unset, .unset] [.int (Int32.ofNat dots)])
      refine Goes.run X [(.istore 12, 2), (.aload 7, 2), (.iload 6, 2)] (L' := #[.val (.int p0), .val (.int p1), .val (.int p2), .val (.int p3), .val (.int p4), .val (.int p5), .val (.int (2 : Int32)), .val (.ref a303), .val (.ref a309), .val (.int pv), .val (.int (1 : Int32)), .val (.int (Int32.ofNat bad)), .val (.int (Int32.ofNat dots)), .unset, .unset]) (S' := [.int (2 : Int32), .ref a303]) (pc' := 279) rfl ?_
      refine Goes.callS X 0 [0] [] (D_fd l Z a0 h0 hw a303 c304 c305 c306 c307 c308 2 (by decide)) (wd hw 63 rfl) (wd hw 64 rfl) (wd hw 4 rfl) (wd hw 65 rfl) pd_y_8 rfl (st := []) rfl rfl (G := []) rfl rfl ?_
      rintro _ _ ⟨rfl, rfl⟩
      refine ⟨Or.inr (Or.inr fun _ q => Or.inr (Or.inr q)), ?_⟩
      obtain ⟨fd, hfd⟩ : ∃ x, own_fdL 2 [(own_cl c304), (own_cl c305)] = x := ⟨_, rfl⟩
      rw [show own_fdN 2 (own_cl c304) (own_cl c305) (own_cl c306) (own_cl c307) (own_cl c308) = fd from hfd]
      have lfd : fd ≤ 9 := hfd ▸ own_fdN_le _ _ _ _ _ _
      show Goes _ _ _ _ _ _ _ _ _ _ _ _ _ _ _ _ _ _ _ _ [(a303, ar "[C" .char [.int c304, .int c305, .int c306, .int c307, .int c308])] 16 399 (mkF m 282 #[.val (.int p0), .val (.int p1), .val (.int p2), .val (.int p3), .val (.int p4), .val (.int p5), .val (.int (2 : Int32)), .val (.ref a303), .val (.ref a309), .val (.int pv), .val (.int (1 : Int32)), .val (.int (Int32.ofNat bad)), .val (.int (Int32.ofNat dots)), .unset, .unset] [.int (own_fdI fd)])
      refine Goes.run X [(.istore 13, 2), (.iload 6, 2), (.iload 10, 2)] (L' := #[.val (.int p0), .val (.int p1), .val (.int p2), .val (.int p3), .val (.int p4), .val (.int p5), .val (.int (2 : Int32)), .val (.ref a303), .val (.ref a309), .val (.int pv), .val (.int (1 : Int32)), .val (.int (Int32.ofNat bad)), .val (.int (Int32.ofNat dots)), .val (.int (own_fdI fd)), .unset]) (S' := [.int (1 : Int32), .int (2 : Int32)]) (pc' := 288) rfl ?_
      refine Goes.if2 X (pc' := 327) (o := 39) (cd := .le) (fun q => absurd q (by decide)) (fun _ => ?_)
      refine Goes.runS X [(.iload 11, 2)] (S' := [.int (Int32.ofNat bad)]) (pc' := 293) rfl ?_
      refine Goes.if1 X (pc' := 327) (o := 34) (cd := .ne) (fun q366 => ?_) (fun q366 => ?_)
      · have h367 := own_sT (own_s0 _ lbad) q366
        refine Goes.run X [(.iconst 0, 1), (.istore 14, 2), (.iload 9, 2), (.iload 14, 2)] (L' := #[.val (.int p0), .val (.int p1), .val (.int p2), .val (.int p3), .val (.int p4), .val (.int p5), .val (.int (2 : Int32)), .val (.ref a303), .val (.ref a309), .val (.int pv), .val (.int (1 : Int32)), .val (.int (Int32.ofNat bad)), .val (.int (Int32.ofNat dots)), .val (.int (own_fdI fd)), .val (.int (0 : Int32))]) (S' := [.int (0 : Int32), .int pv]) (pc' := 334) rfl ?_
        have hp368 : pv = 0 := by rw [← hpv, ha, own_refA]; simp [hbad, hdots, hfd, h367]
        refine Goes.if2 X (pc' := 341) (o := 7) (cd := .ne) (fun q => absurd (q.symm.trans (by rw [hp368]; decide : if_icmp.holds .ne pv (0 : Int32) = false)) (by decide)) (fun _ => ?_)
        refine Goes.runS X [(.iconst 1, 1)] (S' := [.int (1 : Int32)]) (pc' := 338) rfl ?_
        refine Goes.goto X (o := 4) (pc' := 342) ?_
        refine Goes.retI X (by simp) rfl ?_
        exact rfl
      · have h369 := own_sF (own_s0 _ lbad) q366
        have h369 := Classical.not_not.mp h369
        refine Goes.runS X [(.iload 12, 2), (.iconst 1, 1)] (S' := [.int (1 : Int32), .int (Int32.ofNat dots)]) (pc' := 299) rfl ?_
        refine Goes.if2 X (pc' := 327) (o := 28) (cd := .gt) (fun q370 => ?_) (fun q370 => ?_)
        · have h371 := own_sT (own_s1 _ ldots) q370
          refine Goes.run X [(.iconst 0, 1), (.istore 14, 2), (.iload 9, 2), (.iload 14, 2)] (L' := #[.val (.int p0), .val (.int p1), .val (.int p2), .val (.int p3), .val (.int p4), .val (.int p5), .val (.int (2 : Int32)), .val (.ref a303), .val (.ref a309), .val (.int pv), .val (.int (1 : Int32)), .val (.int (Int32.ofNat bad)), .val (.int (Int32.ofNat dots)), .val (.int (own_fdI fd)), .val (.int (0 : Int32))]) (S' := [.int (0 : Int32), .int pv]) (pc' := 334) rfl ?_
          have hp372 : pv = 0 := by rw [← hpv, ha, own_refA]; simp [hbad, hdots, hfd, h369, h371]
          refine Goes.if2 X (pc' := 341) (o := 7) (cd := .ne) (fun q => absurd (q.symm.trans (by rw [hp372]; decide : if_icmp.holds .ne pv (0 : Int32) = false)) (by decide)) (fun _ => ?_)
          refine Goes.runS X [(.iconst 1, 1)] (S' := [.int (1 : Int32)]) (pc' := 338) rfl ?_
          refine Goes.goto X (o := 4) (pc' := 342) ?_
          refine Goes.retI X (by simp) rfl ?_
          exact rfl
        · have h373 := own_sF (own_s1 _ ldots) q370
          refine Goes.runS X [(.iload 12, 2)] (S' := [.int (Int32.ofNat dots)]) (pc' := 304) rfl ?_
          refine Goes.if1 X (pc' := 323) (o := 19) (cd := .eq) (fun q374 => ?_) (fun q374 => ?_)
          · have h375 := own_sT (own_s0' _ ldots) q374
            refine Goes.runS X [(.iconst 1, 1)] (S' := [.int (1 : Int32)]) (pc' := 324) rfl ?_
            refine Goes.goto X (o := 4) (pc' := 328) ?_
            refine Goes.run X [(.istore 14, 2), (.iload 9, 2), (.iload 14, 2)] (L' := #[.val (.int p0), .val (.int p1), .val (.int p2), .val (.int p3), .val (.int p4), .val (.int p5), .val (.int (2 : Int32)), .val (.ref a303), .val (.ref a309), .val (.int pv), .val (.int (1 : Int32)), .val (.int (Int32.ofNat bad)), .val (.int (Int32.ofNat dots)), .val (.int (own_fdI fd)), .val (.int (1 : Int32))]) (S' := [.int (1 : Int32), .int pv]) (pc' := 334) rfl ?_
            have hp376 : pv = 1 := by rw [← hpv, ha, own_refA]; simp [hbad, hdots, hfd, h369, h373, h375]
            refine Goes.if2 X (pc' := 341) (o := 7) (cd := .ne) (fun q => absurd (q.symm.trans (by rw [hp376]; decide : if_icmp.holds .ne pv (1 : Int32) = false)) (by decide)) (fun _ => ?_)
            refine Goes.runS X [(.iconst 1, 1)] (S' := [.int (1 : Int32)]) (pc' := 338) rfl ?_
            refine Goes.goto X (o := 4) (pc' := 342) ?_
            refine Goes.retI X (by simp) rfl ?_
            exact rfl
          · have h377 := own_sF (own_s0' _ ldots) q374
            refine Goes.runS X [(.iload 13, 2), (.iload 10, 2)] (S' := [.int (1 : Int32), .int (own_fdI fd)]) (pc' := 311) rfl ?_
            refine Goes.if2 X (pc' := 327) (o := 16) (cd := .eq) (fun q378 => ?_) (fun q378 => ?_)
            · have h379 := own_sT (own_s3 _ lfd 1 (by decide)) q378
              refine Goes.run X [(.iconst 0, 1), (.istore 14, 2), (.iload 9, 2), (.iload 14, 2)] (L' := #[.val (.int p0), .val (.int p1), .val (.int p2), .val (.int p3), .val (.int p4), .val (.int p5), .val (.int (2 : Int32)), .val (.ref a303), .val (.ref a309), .val (.int pv), .val (.int (1 : Int32)), .val (.int (Int32.ofNat bad)), .val (.int (Int32.ofNat dots)), .val (.int (own_fdI fd)), .val (.int (0 : Int32))]) (S' := [.int (0 : Int32), .int pv]) (pc' := 334) rfl ?_
              have hp380 : pv = 0 := by rw [← hpv, ha, own_refA]; simp [hbad, hdots, hfd, h369, h373, h377, h379]
              refine Goes.if2 X (pc' := 341) (o := 7) (cd := .ne) (fun q => absurd (q.symm.trans (by rw [hp380]; decide : if_icmp.holds .ne pv (0 : Int32) = false)) (by decide)) (fun _ => ?_)
              refine Goes.runS X [(.iconst 1, 1)] (S' := [.int (1 : Int32)]) (pc' := 338) rfl ?_
              refine Goes.goto X (o := 4) (pc' := 342) ?_
              refine Goes.retI X (by simp) rfl ?_
              exact rfl
            · have h381 := own_sF (own_s3 _ lfd 1 (by decide)) q378
              refine Goes.runS X [(.iload 13, 2), (.iload 6, 2), (.iconst 1, 1), (.isub, 1)] (S' := [.int (1 : Int32), .int (own_fdI fd)]) (pc' := 320) rfl ?_
              refine Goes.if2 X (pc' := 327) (o := 7) (cd := .eq) (fun q382 => ?_) (fun q382 => ?_)
              · have h383 := own_sT (own_s3 _ lfd 1 (by decide)) q382
                refine Goes.run X [(.iconst 0, 1), (.istore 14, 2), (.iload 9, 2), (.iload 14, 2)] (L' := #[.val (.int p0), .val (.int p1), .val (.int p2), .val (.int p3), .val (.int p4), .val (.int p5), .val (.int (2 : Int32)), .val (.ref a303), .val (.ref a309), .val (.int pv), .val (.int (1 : Int32)), .val (.int (Int32.ofNat bad)), .val (.int (Int32.ofNat dots)), .val (.int (own_fdI fd)), .val (.int (0 : Int32))]) (S' := [.int (0 : Int32), .int pv]) (pc' := 334) rfl ?_
                have hp384 : pv = 0 := by rw [← hpv, ha, own_refA]; simp [hbad, hdots, hfd, h369, h373, h377, h381, h383]
                refine Goes.if2 X (pc' := 341) (o := 7) (cd := .ne) (fun q => absurd (q.symm.trans (by rw [hp384]; decide : if_icmp.holds .ne pv (0 : Int32) = false)) (by decide)) (fun _ => ?_)
                refine Goes.runS X [(.iconst 1, 1)] (S' := [.int (1 : Int32)]) (pc' := 338) rfl ?_
                refine Goes.goto X (o := 4) (pc' := 342) ?_
                refine Goes.retI X (by simp) rfl ?_
                exact rfl
              · have h385 := own_sF (own_s3 _ lfd 1 (by decide)) q382
                refine Goes.runS X [(.iconst 1, 1)] (S' := [.int (1 : Int32)]) (pc' := 324) rfl ?_
                refine Goes.goto X (o := 4) (pc' := 328) ?_
                refine Goes.run X [(.istore 14, 2), (.iload 9, 2), (.iload 14, 2)] (L' := #[.val (.int p0), .val (.int p1), .val (.int p2), .val (.int p3), .val (.int p4), .val (.int p5), .val (.int (2 : Int32)), .val (.ref a303), .val (.ref a309), .val (.int pv), .val (.int (1 : Int32)), .val (.int (Int32.ofNat bad)), .val (.int (Int32.ofNat dots)), .val (.int (own_fdI fd)), .val (.int (1 : Int32))]) (S' := [.int (1 : Int32), .int pv]) (pc' := 334) rfl ?_
                have hp386 : pv = 1 := by rw [← hpv, ha, own_refA]; simp [hbad, hdots, hfd, h369, h373, h377, h381, h385]
                refine Goes.if2 X (pc' := 341) (o := 7) (cd := .ne) (fun q => absurd (q.symm.trans (by rw [hp386]; decide : if_icmp.holds .ne pv (1 : Int32) = false)) (by decide)) (fun _ => ?_)
                refine Goes.runS X [(.iconst 1, 1)] (S' := [.int (1 : Int32)]) (pc' := 338) rfl ?_
                refine Goes.goto X (o := 4) (pc' := 342) ?_
                refine Goes.retI X (by simp) rfl ?_
                exact rfl
  · refine Goes.runS X [(.iload_n 0, 1)] (S' := [.int p0]) (pc' := 1) rfl ?_
    refine Goes.ldcI X (wd hw 0 rfl) ?_
    refine Goes.run X [(.iand, 1), (.bipush 6, 2), (.irem, 1), (.istore 6, 2)] (L' := #[.val (.int p0), .val (.int p1), .val (.int p2), .val (.int p3), .val (.int p4), .val (.int p5), .val (.int ((p0 &&& (2147483647 : Int32)) % (6 : Int32))), .unset, .unset, .unset, .unset, .unset, .unset, .unset, .unset]) (S' := []) (pc' := 9) rfl ?_
    rw [e3]
    show Goes _ _ _ _ _ _ _ _ _ _ _ _ _ _ _ _ _ _ _ _ [] 0 0 (mkF m 9 #[.val (.int p0), .val (.int p1), .val (.int p2), .val (.int p3), .val (.int p4), .val (.int p5), .val (.int (3 : Int32)), .unset, .unset, .unset, .unset, .unset, .unset, .unset, .unset] [])
    refine Goes.runS X [(.iconst 5, 1)] (S' := [.int (5 : Int32)]) (pc' := 10) rfl ?_
    refine Goes.newarr X (aty := .char) "[C" 5 5 (wd hw 1 rfl) (by decide +kernel) (by decide) (by decide) (fun a387 => ?_)
    refine Goes.run X [(.astore 7, 2), (.aload 7, 2), (.iconst 0, 1), (.iload_n 1, 1)] (L' := #[.val (.int p0), .val (.int p1), .val (.int p2), .val (.int p3), .val (.int p4), .val (.int p5), .val (.int (3 : Int32)), .val (.ref a387), .unset, .unset, .unset, .unset, .unset, .unset, .unset]) (S' := [.int p1, .int (0 : Int32), .ref a387]) (pc' := 18) rfl ?_
    refine Goes.callSW X 2 [] [0] (D_pick l Z a0 h0 hw cs hCS hcs sio hSIO hsio p1) (wd hw 2 rfl) (wd hw 3 rfl) (wd hw 4 rfl) (wd hw 5 rfl) pd_y_0 rfl (st := [.int (0 : Int32), .ref a387]) rfl rfl (G := [(a387, ar "[C" .char [.int 0, .int 0, .int 0, .int 0, .int 0])]) rfl rfl ?_
    rintro _ _ vm0 k0 ⟨c388, rfl, h0c388, h1c388, rfl⟩ X
    refine ⟨Or.inr (Or.inr fun _ q => Or.inr (Or.inr q)), ?_⟩
    refine Goes.castore X 0 0 rfl (by decide) (by decide) (Nat.le_of_ble_eq_true rfl) ?_
    rw [own_nca h0c388 h1c388]
    refine Goes.runS X [(.aload 7, 2), (.iconst 1, 1), (.iload_n 2, 1)] (S' := [.int p2, .int (1 : Int32), .ref a387]) (pc' := 26) rfl ?_
    refine Goes.callSW X 2 [] [0] (D_pick l Z a0 h0 hw cs hCS hcs sio hSIO hsio p2) (wd hw 2 rfl) (wd hw 3 rfl) (wd hw 4 rfl) (wd hw 5 rfl) pd_y_0 rfl (st := [.int (1 : Int32), .ref a387]) rfl rfl (G := [(a387, ar "[C" .char [.int c388, .int 0, .int 0, .int 0, .int 0])]) rfl rfl ?_
    rintro _ _ vm0 k0 ⟨c389, rfl, h0c389, h1c389, rfl⟩ X
    refine ⟨Or.inr (Or.inr fun _ q => Or.inr (Or.inr q)), ?_⟩
    refine Goes.castore X 0 1 rfl (by decide) (by decide) (Nat.le_of_ble_eq_true rfl) ?_
    rw [own_nca h0c389 h1c389]
    refine Goes.runS X [(.aload 7, 2), (.iconst 2, 1), (.iload_n 3, 1)] (S' := [.int p3, .int (2 : Int32), .ref a387]) (pc' := 34) rfl ?_
    refine Goes.callSW X 2 [] [0] (D_pick l Z a0 h0 hw cs hCS hcs sio hSIO hsio p3) (wd hw 2 rfl) (wd hw 3 rfl) (wd hw 4 rfl) (wd hw 5 rfl) pd_y_0 rfl (st := [.int (2 : Int32), .ref a387]) rfl rfl (G := [(a387, ar "[C" .char [.int c388, .int c389, .int 0, .int 0, .int 0])]) rfl rfl ?_
    rintro _ _ vm0 k0 ⟨c390, rfl, h0c390, h1c390, rfl⟩ X
    refine ⟨Or.inr (Or.inr fun _ q => Or.inr (Or.inr q)), ?_⟩
    refine Goes.castore X 0 2 rfl (by decide) (by decide) (Nat.le_of_ble_eq_true rfl) ?_
    rw [own_nca h0c390 h1c390]
    refine Goes.runS X [(.aload 7, 2), (.iconst 3, 1), (.iload 4, 2)] (S' := [.int p4, .int (3 : Int32), .ref a387]) (pc' := 43) rfl ?_
    refine Goes.callSW X 2 [] [0] (D_pick l Z a0 h0 hw cs hCS hcs sio hSIO hsio p4) (wd hw 2 rfl) (wd hw 3 rfl) (wd hw 4 rfl) (wd hw 5 rfl) pd_y_0 rfl (st := [.int (3 : Int32), .ref a387]) rfl rfl (G := [(a387, ar "[C" .char [.int c388, .int c389, .int c390, .int 0, .int 0])]) rfl rfl ?_
    rintro _ _ vm0 k0 ⟨c391, rfl, h0c391, h1c391, rfl⟩ X
    refine ⟨Or.inr (Or.inr fun _ q => Or.inr (Or.inr q)), ?_⟩
    refine Goes.castore X 0 3 rfl (by decide) (by decide) (Nat.le_of_ble_eq_true rfl) ?_
    rw [own_nca h0c391 h1c391]
    refine Goes.runS X [(.aload 7, 2), (.iconst 4, 1), (.iload 5, 2)] (S' := [.int p5, .int (4 : Int32), .ref a387]) (pc' := 52) rfl ?_
    refine Goes.callSW X 2 [] [0] (D_pick l Z a0 h0 hw cs hCS hcs sio hSIO hsio p5) (wd hw 2 rfl) (wd hw 3 rfl) (wd hw 4 rfl) (wd hw 5 rfl) pd_y_0 rfl (st := [.int (4 : Int32), .ref a387]) rfl rfl (G := [(a387, ar "[C" .char [.int c388, .int c389, .int c390, .int c391, .int 0])]) rfl rfl ?_
    rintro _ _ vm0 k0 ⟨c392, rfl, h0c392, h1c392, rfl⟩ X
    refine ⟨Or.inr (Or.inr fun _ q => Or.inr (Or.inr q)), ?_⟩
    refine Goes.castore X 0 4 rfl (by decide) (by decide) (Nat.le_of_ble_eq_true rfl) ?_
    rw [own_nca h0c392 h1c392]
    refine Goes.new X _ (wd hw 6 rfl) (wd hw 7 rfl) (wd hw 8 rfl) (new_Dig hw) (fun a393 => ?_)
    refine Goes.runS X [(.dup, 1), (.iconst 0, 1)] (S' := [.int (0 : Int32), .ref a393, .ref a393]) (pc' := 61) rfl ?_
    refine Goes.callN X 1 [1] [0] (D_dctor l Z a0 h0 hw cs hCS hcs a393) rfl (wd hw 9 rfl) (wd hw 10 rfl) (wd hw 8 rfl) (wd hw 11 rfl) pd_y_1 rfl (st := [.ref a393]) rfl rfl (G := [(a387, ar "[C" .char [.int c388, .int c389, .int c390, .int c391, .int c392])]) rfl rfl ?_
    rintro _ _ ⟨u394, b395, h396, b397, rfl, rfl⟩
    refine ⟨Or.inl rfl, ?_⟩
    refine Goes.run X [(.astore 8, 2), (.iload 6, 2)] (L' := #[.val (.int p0), .val (.int p1), .val (.int p2), .val (.int p3), .val (.int p4), .val (.int p5), .val (.int (3 : Int32)), .val (.ref a387), .val (.ref a393), .unset, .unset, .unset, .unset, .unset, .unset]) (S' := [.int (3 : Int32)]) (pc' := 68) rfl ?_
    refine Goes.if1 X (pc' := 81) (o := 13) (cd := .le) (fun q => absurd q (by decide)) (fun _ => ?_)
    refine Goes.runS X [(.aload 8, 2), (.aload 7, 2), (.iconst 0, 1)] (S' := [.int (0 : Int32), .ref a387, .ref a393]) (pc' := 76) rfl ?_
    refine Goes.caload X 4 0 rfl (by decide) (by decide) rfl ?_
    refine Goes.callV X 0 0 [0, 1, 2, 3] [4] rfl (D_add l Z a0 h0 hw cs hCS hcs a393 u394 h396 b395 (.ref b397) 0 0 (Or.inl rfl : own_ok 0) 0 0 0 0 0 0 (by omega) (List.replicate 16 (.int 0)) (by decide) c388 (own_le h1c388)) (wd hw 66 rfl) (wd hw 67 rfl) (wd hw 69 rfl) (wd hw 68 rfl) (own_nf X (wd hw 69 rfl)) (wd hw 8 rfl) (wd hw 70 rfl) pd_y_9 rfl (st := []) rfl rfl (G := [(a387, ar "[C" .char [.int c388, .int c389, .int c390, .int c391, .int c392])]) rfl rfl ?_
    rintro _ _ ⟨r398, sg399, pl400, ne401, ed402, ex403, k404, bs405, rfl, hk406, hbs407, rfl⟩
    refine ⟨Or.inl rfl, ?_⟩
    obtain ⟨s408, hs409⟩ : ∃ z, (own_st 0 c388) = z := ⟨_, rfl⟩
    obtain ⟨e410, he411⟩ : ∃ z, (own_en 0 0 c388) = z := ⟨_, rfl⟩
    rw [hs409, he411]
    refine Goes.runS X [(.pop, 1), (.iload 6, 2), (.iconst 1, 1)] (S' := [.int (1 : Int32), .int (3 : Int32)]) (pc' := 84) rfl ?_
    refine Goes.if2 X (pc' := 97) (o := 13) (cd := .le) (fun q => absurd q (by decide)) (fun _ => ?_)
    refine Goes.runS X [(.aload 8, 2), (.aload 7, 2), (.iconst 1, 1)] (S' := [.int (1 : Int32), .ref a387, .ref a393]) (pc' := 92) rfl ?_
    refine Goes.caload X 4 1 rfl (by decide) (by decide) rfl ?_
    refine Goes.callV X 0 0 [0, 1, 2, 3] [4] rfl (D_add l Z a0 h0 hw cs hCS hcs a393 u394 h396 b395 (.ref b397) s408 e410 (hs409 ▸ own_st_ok c388 (Or.inl rfl : own_ok 0)) sg399 pl400 ne401 ed402 ex403 k404 (by omega) bs405 hbs407 c389 (own_le h1c389)) (wd hw 66 rfl) (wd hw 67 rfl) (wd hw 69 rfl) (wd hw 68 rfl) (own_nf X (wd hw 69 rfl)) (wd hw 8 rfl) (wd hw 70 rfl) pd_y_9 rfl (st := []) rfl rfl (G := [(a387, ar "[C" .char [.int c388, .int c389, .int c390, .int c391, .int c392])]) rfl rfl ?_
    rintro _ _ ⟨r412, sg413, pl414, ne415, ed416, ex417, k418, bs419, rfl, hk420, hbs421, rfl⟩
    refine ⟨Or.inl rfl, ?_⟩
    obtain ⟨s422, hs423⟩ : ∃ z, (own_st s408 c389) = z := ⟨_, rfl⟩
    obtain ⟨e424, he425⟩ : ∃ z, (own_en e410 s408 c389) = z := ⟨_, rfl⟩
    rw [hs423, he425]
    refine Goes.runS X [(.pop, 1), (.iload 6, 2), (.iconst 2, 1)] (S' := [.int (2 : Int32), .int (3 : Int32)]) (pc' := 100) rfl ?_
    refine Goes.if2 X (pc' := 113) (o := 13) (cd := .le) (fun q => absurd q (by decide)) (fun _ => ?_)
    refine Goes.runS X [(.aload 8, 2), (.aload 7, 2), (.iconst 2, 1)] (S' := [.int (2 : Int32), .ref a387, .ref a393]) (pc' := 108) rfl ?_
    refine Goes.caload X 4 2 rfl (by decide) (by decide) rfl ?_
    refine Goes.callV X 0 0 [0, 1, 2, 3] [4] rfl (D_add l Z a0 h0 hw cs hCS hcs a393 u394 h396 b395 (.ref b397) s422 e424 (hs423 ▸ own_st_ok c389 (hs409 ▸ own_st_ok c388 (Or.inl rfl : own_ok 0))) sg413 pl414 ne415 ed416 ex417 k418 (by omega) bs419 hbs421 c390 (own_le h1c390)) (wd hw 66 rfl) (wd hw 67 rfl) (wd hw 69 rfl) (wd hw 68 rfl) (own_nf X (wd hw 69 rfl)) (wd hw 8 rfl) (wd hw 70 rfl) pd_y_9 rfl (st := []) rfl rfl (G := [(a387, ar "[C" .char [.int c388, .int c389, .int c390, .int c391, .int c392])]) rfl rfl ?_
    rintro _ _ ⟨r426, sg427, pl428, ne429, ed430, ex431, k432, bs433, rfl, hk434, hbs435, rfl⟩
    refine ⟨Or.inl rfl, ?_⟩
    obtain ⟨s436, hs437⟩ : ∃ z, (own_st s422 c390) = z := ⟨_, rfl⟩
    obtain ⟨e438, he439⟩ : ∃ z, (own_en e424 s422 c390) = z := ⟨_, rfl⟩
    rw [hs437, he439]
    refine Goes.runS X [(.pop, 1), (.iload 6, 2), (.iconst 3, 1)] (S' := [.int (3 : Int32), .int (3 : Int32)]) (pc' := 116) rfl ?_
    refine Goes.if2 X (pc' := 129) (o := 13) (cd := .le) (fun _ => ?_) (fun q => absurd q (by decide))
    refine Goes.runS X [(.iload 6, 2), (.iconst 4, 1)] (S' := [.int (4 : Int32), .int (3 : Int32)]) (pc' := 132) rfl ?_
    refine Goes.if2 X (pc' := 145) (o := 13) (cd := .le) (fun _ => ?_) (fun q => absurd q (by decide))
    refine Goes.runS X [(.aload 8, 2)] (S' := [.ref a393]) (pc' := 147) rfl ?_
    refine Goes.callV X 0 0 [0] [1, 2, 3, 4] rfl (D_pl l Z a0 h0 hw a393 s436 e438 (.long sg427) (.long pl428) (.int ne429) (.int ed430) (.long ex431) (.ref u394) (.ref h396) (.int 0) (.int 0)) (wd hw 45 rfl) (wd hw 46 rfl) (wd hw 48 rfl) (wd hw 47 rfl) (own_nf X (wd hw 48 rfl)) (wd hw 8 rfl) (wd hw 49 rfl) pd_y_4 rfl (st := []) rfl rfl (G := [(u394, o_SB (.ref b395) (.int 0) (.int (Int32.ofNat k432))), (b395, oBs bs433), (h396, o_SB (.ref b397) (.int 0) (.int 0)), (a387, ar "[C" .char [.int c388, .int c389, .int c390, .int c391, .int c392])]) rfl rfl ?_
    rintro _ _ ⟨rfl, rfl⟩
    refine ⟨Or.inr (Or.inr fun _ q => Or.inr (Or.inr q)), ?_⟩
    obtain ⟨pv, hpv⟩ : ∃ z, own_pl s436 e438 = z := ⟨_, rfl⟩
    rw [hpv]
    subst he439
    subst hs437
    subst he425
    subst hs423
    subst he411
    subst hs409
    rw [own_law3 c388 c389 c390 0] at hpv
    refine Goes.sub [4] (G := [(a387, ar "[C" .char [.int c388, .int c389, .int c390, .int c391, .int c392])]) rfl ?_
    refine Goes.run X [(.istore 9, 2), (.iload 6, 2)] (L' := #[.val (.int p0), .val (.int p1), .val (.int p2), .val (.int p3), .val (.int p4), .val (.int p5), .val (.int (3 : Int32)), .val (.ref a387), .val (.ref a393), .val (.int pv), .unset, .unset, .unset, .unset, .unset]) (S' := [.int (3 : Int32)]) (pc' := 154) rfl ?_
    refine Goes.if1 X (pc' := 170) (o := 16) (cd := .le) (fun q => absurd q (by decide)) (fun _ => ?_)
    refine Goes.runS X [(.aload 7, 2), (.iconst 0, 1)] (S' := [.int (0 : Int32), .ref a387]) (pc' := 160) rfl ?_
    refine Goes.caload X 0 0 rfl (by decide) (by decide) rfl ?_
    refine Goes.runS X [(.bipush 45, 2)] (S' := [.int (45 : Int32), .int c388]) (pc' := 163) rfl ?_
    refine Goes.if2 X (pc' := 170) (o := 7) (cd := .ne) (fun q440 => ?_) (fun q440 => ?_)
    · have h441 : ¬ c388 = 45 := by simpa [if_icmp.holds] using q440
      have ha : own_refN 3 [(own_cl c388), (own_cl c389), (own_cl c390)] = own_refA 3 0 [(own_cl c388), (own_cl c389), (own_cl c390)] := congrArg (fun z => own_refA 3 z [(own_cl c388), (own_cl c389), (own_cl c390)]) (if_neg fun z => h441 ((own_cl0 _).mp z.2))
      refine Goes.runS X [(.iconst 0, 1)] (S' := [.int (0 : Int32)]) (pc' := 171) rfl ?_
      refine Goes.run X [(.istore 10, 2), (.aload 7, 2), (.iconst 0, 1), (.iload 6, 2), (.iload 10, 2)] (L' := #[.val (.int p0), .val (.int p1), .val (.int p2), .val (.int p3), .val (.int p4), .val (.int p5), .val (.int (3 : Int32)), .val (.ref a387), .val (.ref a393), .val (.int pv), .val (.int (0 : Int32)), .unset, .unset, .unset, .unset]) (S' := [.int (0 : Int32), .int (3 : Int32), .int (0 : Int32), .ref a387]) (pc' := 180) rfl ?_
      refine Goes.callS X 0 [0] [] (D_bad l Z a0 h0 hw a387 _ 3 0 0 (by decide) (by decide) (by decide) c388 rfl) (wd hw 57 rfl) (wd hw 58 rfl) (wd hw 4 rfl) (wd hw 59 rfl) pd_y_6 rfl (st := []) rfl rfl (G := []) rfl rfl ?_
      rintro _ _ ⟨rfl, rfl⟩
      refine ⟨Or.inr (Or.inr fun _ q => Or.inr (Or.inr q)), ?_⟩
      refine Goes.runS X [(.aload 7, 2), (.iconst 1, 1), (.iload 6, 2), (.iload 10, 2)] (S' := [.int (0 : Int32), .int (3 : Int32), .int (1 : Int32), .ref a387, .int (Int32.ofNat (own_badN 3 0 0 (own_cl c388)))]) (pc' := 190) rfl ?_
      refine Goes.callS X 1 [0] [] (D_bad l Z a0 h0 hw a387 _ 3 0 1 (by decide) (by decide) (by decide) c389 rfl) (wd hw 57 rfl) (wd hw 58 rfl) (wd hw 4 rfl) (wd hw 59 rfl) pd_y_6 rfl (st := [.int (Int32.ofNat (own_badN 3 0 0 (own_cl c388)))]) rfl rfl (G := []) rfl rfl ?_
      rintro _ _ ⟨rfl, rfl⟩
      refine ⟨Or.inr (Or.inr fun _ q => Or.inr (Or.inr q)), ?_⟩
      refine Goes.runS X [(.iadd, 1), (.aload 7, 2), (.iconst 2, 1), (.iload 6, 2), (.iload 10, 2)] (S' := [.int (0 : Int32), .int (3 : Int32), .int (2 : Int32), .ref a387, .int ((Int32.ofNat (own_badN 3 0 0 (own_cl c388))) + (Int32.ofNat (own_badN 3 0 1 (own_cl c389))))]) (pc' := 201) rfl ?_
      refine Goes.callS X 1 [0] [] (D_bad l Z a0 h0 hw a387 _ 3 0 2 (by decide) (by decide) (by decide) c390 rfl) (wd hw 57 rfl) (wd hw 58 rfl) (wd hw 4 rfl) (wd hw 59 rfl) pd_y_6 rfl (st := [.int ((Int32.ofNat (own_badN 3 0 0 (own_cl c388))) + (Int32.ofNat (own_badN 3 0 1 (own_cl c389))))]) rfl rfl (G := []) rfl rfl ?_
      rintro _ _ ⟨rfl, rfl⟩
      refine ⟨Or.inr (Or.inr fun _ q => Or.inr (Or.inr q)), ?_⟩
      refine Goes.runS X [(.iadd, 1), (.aload 7, 2), (.iconst 3, 1), (.iload 6, 2), (.iload 10, 2)] (S' := [.int (0 : Int32), .int (3 : Int32), .int (3 : Int32), .ref a387, .int (((Int32.ofNat (own_badN 3 0 0 (own_cl c388))) + (Int32.ofNat (own_badN 3 0 1 (own_cl c389)))) + (Int32.ofNat (own_badN 3 0 2 (own_cl c390))))]) (pc' := 212) rfl ?_
      refine Goes.callS X 1 [0] [] (D_bad l Z a0 h0 hw a387 _ 3 0 3 (by decide) (by decide) (by decide) c391 rfl) (wd hw 57 rfl) (wd hw 58 rfl) (wd hw 4 rfl) (wd hw 59 rfl) pd_y_6 rfl (st := [.int (((Int32.ofNat (own_badN 3 0 0 (own_cl c388))) + (Int32.ofNat (own_badN 3 0 1 (own_cl c389)))) + (Int32.ofNat (own_badN 3 0 2 (own_cl c390))))]) rfl rfl (G := []) rfl rfl ?_
      rintro _ _ ⟨rfl, rfl⟩
      refine ⟨Or.inr (Or.inr fun _ q => Or.inr (Or.inr q)), ?_⟩
      refine Goes.runS X [(.iadd, 1), (.aload 7, 2), (.iconst 4, 1), (.iload 6, 2), (.iload 10, 2)] (S' := [.int (0 : Int32), .int (3 : Int32), .int (4 : Int32), .ref a387, .int ((((Int32.ofNat (own_badN 3 0 0 (own_cl c388))) + (Int32.ofNat (own_badN 3 0 1 (own_cl c389)))) + (Int32.ofNat (own_badN 3 0 2 (own_cl c390)))) + (Int32.ofNat (own_badN 3 0 3 (own_cl c391))))]) (pc' := 223) rfl ?_
      refine Goes.callS X 1 [0] [] (D_bad l Z a0 h0 hw a387 _ 3 0 4 (by decide) (by decide) (by decide) c392 rfl) (wd hw 57 rfl) (wd hw 58 rfl) (wd hw 4 rfl) (wd hw 59 rfl) pd_y_6 rfl (st := [.int ((((Int32.ofNat (own_badN 3 0 0 (own_cl c388))) + (Int32.ofNat (own_badN 3 0 1 (own_cl c389)))) + (Int32.ofNat (own_badN 3 0 2 (own_cl c390)))) + (Int32.ofNat (own_badN 3 0 3 (own_cl c391))))]) rfl rfl (G := []) rfl rfl ?_
      rintro _ _ ⟨rfl, rfl⟩
      refine ⟨Or.inr (Or.inr fun _ q => Or.inr (Or.inr q)), ?_⟩
      refine Goes.runS X [(.iadd, 1)] (S' := [.int (((((Int32.ofNat (own_badN 3 0 0 (own_cl c388))) + (Int32.ofNat (own_badN 3 0 1 (own_cl c389)))) + (Int32.ofNat (own_badN 3 0 2 (own_cl c390)))) + (Int32.ofNat (own_badN 3 0 3 (own_cl c391)))) + (Int32.ofNat (own_badN 3 0 4 (own_cl c392))))]) (pc' := 227) rfl ?_
      obtain ⟨bad, hbad⟩ : ∃ x, own_badL 3 0 [(own_cl c388), (own_cl c389), (own_cl c390)] = x := ⟨_, rfl⟩
      have lbad : bad ≤ 9 := hbad ▸ own_badL_le _ _ _
      rw [show (((((Int32.ofNat (own_badN 3 0 0 (own_cl c388))) + (Int32.ofNat (own_badN 3 0 1 (own_cl c389)))) + (Int32.ofNat (own_badN 3 0 2 (own_cl c390)))) + (Int32.ofNat (own_badN 3 0 3 (own_cl c391)))) + (Int32.ofNat (own_badN 3 0 4 (own_cl c392)))) = Int32.ofNat bad from by rw [← hbad]; simp only [← Int32.ofNat_add]; rfl]
      show Goes _ _ _ _ _ _ _ _ _ _ _ _ _ _ _ _ _ _ _ _ [(a387, ar "[C" .char [.int c388, .int c389, .int c390, .int c391, .int c392])] 16 399 (mkF m 227 #[.val (.int p0), .val (.int p1), .val (.int p2), .val (.int p3), .val (.int p4), .val (.int p5), .val (.int (3 : Int32)), .val (.ref a387), .val (.ref a393), .val (.int pv), .val (.int (0 : Int32)), .unset, .unset, .unset, .unset] [.int (Int32.ofNat bad)])
      refine Goes.run X [(.istore 11, 2), (.aload 7, 2), (.iconst 0, 1), (.iload 6, 2)] (L' := #[.val (.int p0), .val (.int p1), .val (.int p2), .val (.int p3), .val (.int p4), .val (.int p5), .val (.int (3 : Int32)), .val (.ref a387), .val (.ref a393), .val (.int pv), .val (.int (0 : Int32)), .val (.int (Int32.ofNat bad)), .unset, .unset, .unset]) (S' := [.int (3 : Int32), .int (0 : Int32), .ref a387]) (pc' := 234) rfl ?_
      refine Goes.callS X 0 [0] [] (D_dot l Z a0 h0 hw a387 _ 3 0 (by omega) (by decide) c388 rfl) (wd hw 60 rfl) (wd hw 61 rfl) (wd hw 4 rfl) (wd hw 62 rfl) pd_y_7 rfl (st := []) rfl rfl (G := []) rfl rfl ?_
      rintro _ _ ⟨rfl, rfl⟩
      refine ⟨Or.inr (Or.inr fun _ q => Or.inr (Or.inr q)), ?_⟩
      refine Goes.runS X [(.aload 7, 2), (.iconst 1, 1), (.iload 6, 2)] (S' := [.int (3 : Int32), .int (1 : Int32), .ref a387, .int (Int32.ofNat (own_dotN 3 0 (own_cl c388)))]) (pc' := 242) rfl ?_
      refine Goes.callS X 1 [0] [] (D_dot l Z a0 h0 hw a387 _ 3 1 (by omega) (by decide) c389 rfl) (wd hw 60 rfl) (wd hw 61 rfl) (wd hw 4 rfl) (wd hw 62 rfl) pd_y_7 rfl (st := [.int (Int32.ofNat (own_dotN 3 0 (own_cl c388)))]) rfl rfl (G := []) rfl rfl ?_
      rintro _ _ ⟨rfl, rfl⟩
      refine ⟨Or.inr (Or.inr fun _ q => Or.inr (Or.inr q)), ?_⟩
      refine Goes.runS X [(.iadd, 1), (.aload 7, 2), (.iconst 2, 1), (.iload 6, 2)] (S' := [.int (3 : Int32), .int (2 : Int32), .ref a387, .int ((Int32.ofNat (own_dotN 3 0 (own_cl c388))) + (Int32.ofNat (own_dotN 3 1 (own_cl c389))))]) (pc' := 251) rfl ?_
      refine Goes.callS X 1 [0] [] (D_dot l Z a0 h0 hw a387 _ 3 2 (by omega) (by decide) c390 rfl) (wd hw 60 rfl) (wd hw 61 rfl) (wd hw 4 rfl) (wd hw 62 rfl) pd_y_7 rfl (st := [.int ((Int32.ofNat (own_dotN 3 0 (own_cl c388))) + (Int32.ofNat (own_dotN 3 1 (own_cl c389))))]) rfl rfl (G := []) rfl rfl ?_
      rintro _ _ ⟨rfl, rfl⟩
      refine ⟨Or.inr (Or.inr fun _ q => Or.inr (Or.inr q)), ?_⟩
      refine Goes.runS X [(.iadd, 1), (.aload 7, 2), (.iconst 3, 1), (.iload 6, 2)] (S' := [.int (3 : Int32), .int (3 : Int32), .ref a387, .int (((Int32.ofNat (own_dotN 3 0 (own_cl c388))) + (Int32.ofNat (own_dotN 3 1 (own_cl c389)))) + (Int32.ofNat (own_dotN 3 2 (own_cl c390))))]) (pc' := 260) rfl ?_
      refine Goes.callS X 1 [0] [] (D_dot l Z a0 h0 hw a387 _ 3 3 (by omega) (by decide) c391 rfl) (wd hw 60 rfl) (wd hw 61 rfl) (wd hw 4 rfl) (wd hw 62 rfl) pd_y_7 rfl (st := [.int (((Int32.ofNat (own_dotN 3 0 (own_cl c388))) + (Int32.ofNat (own_dotN 3 1 (own_cl c389)))) + (Int32.ofNat (own_dotN 3 2 (own_cl c390))))]) rfl rfl (G := []) rfl rfl ?_
      rintro _ _ ⟨rfl, rfl⟩
      refine ⟨Or.inr (Or.inr fun _ q => Or.inr (Or.inr q)), ?_⟩
      refine Goes.runS X [(.iadd, 1), (.aload 7, 2), (.iconst 4, 1), (.iload 6, 2)] (S' := [.int (3 : Int32), .int (4 : Int32), .ref a387, .int ((((Int32.ofNat (own_dotN 3 0 (own_cl c388))) + (Int32.ofNat (own_dotN 3 1 (own_cl c389)))) + (Int32.ofNat (own_dotN 3 2 (own_cl c390)))) + (Int32.ofNat (own_dotN 3 3 (own_cl c391))))]) (pc' := 269) rfl ?_
      refine Goes.callS X 1 [0] [] (D_dot l Z a0 h0 hw a387 _ 3 4 (by omega) (by decide) c392 rfl) (wd hw 60 rfl) (wd hw 61 rfl) (wd hw 4 rfl) (wd hw 62 rfl) pd_y_7 rfl (st := [.int ((((Int32.ofNat (own_dotN 3 0 (own_cl c388))) + (Int32.ofNat (own_dotN 3 1 (own_cl c389)))) + (Int32.ofNat (own_dotN 3 2 (own_cl c390)))) + (Int32.ofNat (own_dotN 3 3 (own_cl c391))))]) rfl rfl (G := []) rfl rfl ?_
      rintro _ _ ⟨rfl, rfl⟩
      refine ⟨Or.inr (Or.inr fun _ q => Or.inr (Or.inr q)), ?_⟩
      refine Goes.runS X [(.iadd, 1)] (S' := [.int (((((Int32.ofNat (own_dotN 3 0 (own_cl c388))) + (Int32.ofNat (own_dotN 3 1 (own_cl c389)))) + (Int32.ofNat (own_dotN 3 2 (own_cl c390)))) + (Int32.ofNat (own_dotN 3 3 (own_cl c391)))) + (Int32.ofNat (own_dotN 3 4 (own_cl c392))))]) (pc' := 273) rfl ?_
      obtain ⟨dots, hdots⟩ : ∃ x, own_dotL 3 [(own_cl c388), (own_cl c389), (own_cl c390)] = x := ⟨_, rfl⟩
      have ldots : dots ≤ 9 := hdots ▸ own_dotL_le _ _
      rw [show (((((Int32.ofNat (own_dotN 3 0 (own_cl c388))) + (Int32.ofNat (own_dotN 3 1 (own_cl c389)))) + (Int32.ofNat (own_dotN 3 2 (own_cl c390)))) + (Int32.ofNat (own_dotN 3 3 (own_cl c391)))) + (Int32.ofNat (own_dotN 3 4 (own_cl c392)))) = Int32.ofNat dots from by rw [← hdots]; simp only [← Int32.ofNat_add]; rfl]
      show Goes _ _ _ _ _ _ _ _ _ _ _ _ _ _ _ _ _ _ _ _ [(a387, ar "[C" .char [.int c388, .int c389, .int c390, .int c391, .int c392])] 16 399 (mkF m 273 #[.val (.int p0), .val (.int p1), .val (.int p2), .val (.int p3), .val (.int p4), .val (.int p5), .val (.int (3 : Int32)), .val (.ref a387), .val (.ref a393), .val (.int pv), .val (.int (0 : Int32)), .val (.int (Int32.ofNat bad)), .unset, .unset, .unset] [.int (Int32.ofNat dots)])
      refine Goes.run X [(.istore 12, 2), (.aload 7, 2), (.iload 6, 2)] (L' := #[.val (.int p0), .val (.int p1), .val (.int p2), .val (.int p3), .val (.int p4), .val (.int p5), .val (.int (3 : Int32)), .val (.ref a387), .val (.ref a393), .val (.int pv), .val (.int (0 : Int32)), .val (.int (Int32.ofNat bad)), .val (.int (Int32.ofNat dots)), .unset, .unset]) (S' := [.int (3 : Int32), .ref a387]) (pc' := 279) rfl ?_
      refine Goes.callS X 0 [0] [] (D_fd l Z a0 h0 hw a387 c388 c389 c390 c391 c392 3 (by decide)) (wd hw 63 rfl) (wd hw 64 rfl) (wd hw 4 rfl) (wd hw 65 rfl) pd_y_8 rfl (st := []) rfl rfl (G := []) rfl rfl ?_
      rintro _ _ ⟨rfl, rfl⟩
      refine ⟨Or.inr (Or.inr fun _ q => Or.inr (Or.inr q)), ?_⟩
      obtain ⟨fd, hfd⟩ : ∃ x, own_fdL 3 [(own_cl c388), (own_cl c389), (own_cl c390)] = x := ⟨_, rfl⟩
      rw [show own_fdN 3 (own_cl c388) (own_cl c389) (own_cl c390) (own_cl c391) (own_cl c392) = fd from hfd]
      have lfd : fd ≤ 9 := hfd ▸ own_fdN_le _ _ _ _ _ _
      show Goes _ _ _ _ _ _ _ _ _ _ _ _ _ _ _ _ _ _ _ _ [(a387, ar "[C" .char [.int c388, .int c389, .int c390, .int c391, .int c392])] 16 399 (mkF m 282 #[.val (.int p0), .val (.int p1), .val (.int p2), .val (.int p3), .val (.int p4), .val (.int p5), .val (.int (3 : Int32)), .val (.ref a387), .val (.ref a393), .val (.int pv), .val (.int (0 : Int32)), .val (.int (Int32.ofNat bad)), .val (.int (Int32.ofNat dots)), .unset, .unset] [.int (own_fdI fd)])
      refine Goes.run X [(.istore 13, 2), (.iload 6, 2), (.iload 10, 2)] (L' := #[.val (.int p0), .val (.int p1), .val (.int p2), .val (.int p3), .val (.int p4), .val (.int p5), .val (.int (3 : Int32)), .val (.ref a387), .val (.ref a393), .val (.int pv), .val (.int (0 : Int32)), .val (.int (Int32.ofNat bad)), .val (.int (Int32.ofNat dots)), .val (.int (own_fdI fd)), .unset]) (S' := [.int (0 : Int32), .int (3 : Int32)]) (pc' := 288) rfl ?_
      refine Goes.if2 X (pc' := 327) (o := 39) (cd := .le) (fun q => absurd q (by decide)) (fun _ => ?_)
      refine Goes.runS X [(.iload 11, 2)] (S' := [.int (Int32.ofNat bad)]) (pc' := 293) rfl ?_
      refine Goes.if1 X (pc' := 327) (o := 34) (cd := .ne) (fun q442 => ?_) (fun q442 => ?_)
      · have h443 := own_sT (own_s0 _ lbad) q442
        refine Goes.run X [(.iconst 0, 1), (.istore 14, 2), (.iload 9, 2), (.iload 14, 2)] (L' := #[.val (.int p0), .val (.int p1), .val (.int p2), .val (.int p3), .val (.int p4), .val (.int p5), .val (.int (3 : Int32)), .val (.ref a387), .val (.ref a393), .val (.int pv), .val (.int (0 : Int32)), .val (.int (Int32.ofNat bad)), .val (.int (Int32.ofNat dots)), .val (.int (own_fdI fd)), .val (.int (0 : Int32))]) (S' := [.int (0 : Int32), .int pv]) (pc' := 334) rfl ?_
        have hp444 : pv = 0 := by rw [← hpv, ha, own_refA]; simp [hbad, hdots, hfd, h443]
        refine Goes.if2 X (pc' := 341) (o := 7) (cd := .ne) (fun q => absurd (q.symm.trans (by rw [hp444]; decide : if_icmp.holds .ne pv (0 : Int32) = false)) (by decide)) (fun _ => ?_)
        refine Goes.runS X [(.iconst 1, 1)] (S' := [.int (1 : Int32)]) (pc' := 338) rfl ?_
        refine Goes.goto X (o := 4) (pc' := 342) ?_
        refine Goes.retI X (by simp) rfl ?_
        exact rfl
      · have h445 := own_sF (own_s0 _ lbad) q442
        have h445 := Classical.not_not.mp h445
        refine Goes.runS X [(.iload 12, 2), (.iconst 1, 1)] (S' := [.int (1 : Int32), .int (Int32.ofNat dots)]) (pc' := 299) rfl ?_
        refine Goes.if2 X (pc' := 327) (o := 28) (cd := .gt) (fun q446 => ?_) (fun q446 => ?_)
        · have h447 := own_sT (own_s1 _ ldots) q446
          refine Goes.run X [(.iconst 0, 1), (.istore 14, 2), (.iload 9, 2), (.iload 14, 2)] (L' := #[.val (.int p0), .val (.int p1), .val (.int p2), .val (.int p3), .val (.int p4), .val (.int p5), .val (.int (3 : Int32)), .val (.ref a387), .val (.ref a393), .val (.int pv), .val (.int (0 : Int32)), .val (.int (Int32.ofNat bad)), .val (.int (Int32.ofNat dots)), .val (.int (own_fdI fd)), .val (.int (0 : Int32))]) (S' := [.int (0 : Int32), .int pv]) (pc' := 334) rfl ?_
          have hp448 : pv = 0 := by rw [← hpv, ha, own_refA]; simp [hbad, hdots, hfd, h445, h447]
          refine Goes.if2 X (pc' := 341) (o := 7) (cd := .ne) (fun q => absurd (q.symm.trans (by rw [hp448]; decide : if_icmp.holds .ne pv (0 : Int32) = false)) (by decide)) (fun _ => ?_)
          refine Goes.runS X [(.iconst 1, 1)] (S' := [.int (1 : Int32)]) (pc' := 338) rfl ?_
          refine Goes.goto X (o := 4) (pc' := 342) ?_
          refine Goes.retI X (by simp) rfl ?_
          exact rfl
        · have h449 := own_sF (own_s1 _ ldots) q446
          refine Goes.runS X [(.iload 12, 2)] (S' := [.int (Int32.ofNat dots)]) (pc' := 304) rfl ?_
          refine Goes.if1 X (pc' := 323) (o := 19) (cd := .eq) (fun q450 => ?_) (fun q450 => ?_)
          · have h451 := own_sT (own_s0' _ ldots) q450
            refine Goes.runS X [(.iconst 1, 1)] (S' := [.int (1 : Int32)]) (pc' := 324) rfl ?_
            refine Goes.goto X (o := 4) (pc' := 328) ?_
            refine Goes.run X [(.istore 14, 2), (.iload 9, 2), (.iload 14, 2)] (L' := #[.val (.int p0), .val (.int p1), .val (.int p2), .val (.int p3), .val (.int p4), .val (.int p5), .val (.int (3 : Int32)), .val (.ref a387), .val (.ref a393), .val (.int pv), .val (.int (0 : Int32)), .val (.int (Int32.ofNat bad)), .val (.int (Int32.ofNat dots)), .val (.int (own_fdI fd)), .val (.int (1 : Int32))]) (S' := [.int (1 : Int32), .int pv]) (pc' := 334) rfl ?_
            have hp452 : pv = 1 := by rw [← hpv, ha, own_refA]; simp [hbad, hdots, hfd, h445, h449, h451]
            refine Goes.if2 X (pc' := 341) (o := 7) (cd := .ne) (fun q => absurd (q.symm.trans (by rw [hp452]; decide : if_icmp.holds .ne pv (1 : Int32) = false)) (by decide)) (fun _ => ?_)
            refine Goes.runS X [(.iconst 1, 1)] (S' := [.int (1 : Int32)]) (pc' := 338) rfl ?_
            refine Goes.goto X (o := 4) (pc' := 342) ?_
            refine Goes.retI X (by simp) rfl ?_
            exact rfl
          · have h453 := own_sF (own_s0' _ ldots) q450
            refine Goes.runS X [(.iload 13, 2), (.iload 10, 2)] (S' := [.int (0 : Int32), .int (own_fdI fd)]) (pc' := 311) rfl ?_
            refine Goes.if2 X (pc' := 327) (o := 16) (cd := .eq) (fun q454 => ?_) (fun q454 => ?_)
            · have h455 := own_sT (own_s3 _ lfd 0 (by decide)) q454
              refine Goes.run X [(.iconst 0, 1), (.istore 14, 2), (.iload 9, 2), (.iload 14, 2)] (L' := #[.val (.int p0), .val (.int p1), .val (.int p2), .val (.int p3), .val (.int p4), .val (.int p5), .val (.int (3 : Int32)), .val (.ref a387), .val (.ref a393), .val (.int pv), .val (.int (0 : Int32)), .val (.int (Int32.ofNat bad)), .val (.int (Int32.ofNat dots)), .val (.int (own_fdI fd)), .val (.int (0 : Int32))]) (S' := [.int (0 : Int32), .int pv]) (pc' := 334) rfl ?_
              have hp456 : pv = 0 := by rw [← hpv, ha, own_refA]; simp [hbad, hdots, hfd, h445, h449, h453, h455]
              refine Goes.if2 X (pc' := 341) (o := 7) (cd := .ne) (fun q => absurd (q.symm.trans (by rw [hp456]; decide : if_icmp.holds .ne pv (0 : Int32) = false)) (by decide)) (fun _ => ?_)
              refine Goes.runS X [(.iconst 1, 1)] (S' := [.int (1 : Int32)]) (pc' := 338) rfl ?_
              refine Goes.goto X (o := 4) (pc' := 342) ?_
              refine Goes.retI X (by simp) rfl ?_
              exact rfl
            · have h457 := own_sF (own_s3 _ lfd 0 (by decide)) q454
              refine Goes.runS X [(.iload 13, 2), (.iload 6, 2), (.iconst 1, 1), (.isub, 1)] (S' := [.int (2 : Int32), .int (own_fdI fd)]) (pc' := 320) rfl ?_
              refine Goes.if2 X (pc' := 327) (o := 7) (cd := .eq) (fun q458 => ?_) (fun q458 => ?_)
              · have h459 := own_sT (own_s3 _ lfd 2 (by decide)) q458
                refine Goes.run X [(.iconst 0, 1), (.istore 14, 2), (.iload 9, 2), (.iload 14, 2)] (L' := #[.val (.int p0), .val (.int p1), .val (.int p2), .val (.int p3), .val (.int p4), .val (.int p5), .val (.int (3 : Int32)), .val (.ref a387), .val (.ref a393), .val (.int pv), .val (.int (0 : Int32)), .val (.int (Int32.ofNat bad)), .val (.int (Int32.ofNat dots)), .val (.int (own_fdI fd)), .val (.int (0 : Int32))]) (S' := [.int (0 : Int32), .int pv]) (pc' := 334) rfl ?_
                have hp460 : pv = 0 := by rw [← hpv, ha, own_refA]; simp [hbad, hdots, hfd, h445, h449, h453, h457, h459]
                refine Goes.if2 X (pc' := 341) (o := 7) (cd := .ne) (fun q => absurd (q.symm.trans (by rw [hp460]; decide : if_icmp.holds .ne pv (0 : Int32) = false)) (by decide)) (fun _ => ?_)
                refine Goes.runS X [(.iconst 1, 1)] (S' := [.int (1 : Int32)]) (pc' := 338) rfl ?_
                refine Goes.goto X (o := 4) (pc' := 342) ?_
                refine Goes.retI X (by simp) rfl ?_
                exact rfl
              · have h461 := own_sF (own_s3 _ lfd 2 (by decide)) q458
                refine Goes.runS X [(.iconst 1, 1)] (S' := [.int (1 : Int32)]) (pc' := 324) rfl ?_
                refine Goes.goto X (o := 4) (pc' := 328) ?_
                refine Goes.run X [(.istore 14, 2), (.iload 9, 2), (.iload 14, 2)] (L' := #[.val (.int p0), .val (.int p1), .val (.int p2), .val (.int p3), .val (.int p4), .val (.int p5), .val (.int (3 : Int32)), .val (.ref a387), .val (.ref a393), .val (.int pv), .val (.int (0 : Int32)), .val (.int (Int32.ofNat bad)), .val (.int (Int32.ofNat dots)), .val (.int (own_fdI fd)), .val (.int (1 : Int32))]) (S' := [.int (1 : Int32), .int pv]) (pc' := 334) rfl ?_
                have hp462 : pv = 1 := by rw [← hpv, ha, own_refA]; simp [hbad, hdots, hfd, h445, h449, h453, h457, h461]
                refine Goes.if2 X (pc' := 341) (o := 7) (cd := .ne) (fun q => absurd (q.symm.trans (by rw [hp462]; decide : if_icmp.holds .ne pv (1 : Int32) = false)) (by decide)) (fun _ => ?_)
                refine Goes.runS X [(.iconst 1, 1)] (S' := [.int (1 : Int32)]) (pc' := 338) rfl ?_
                refine Goes.goto X (o := 4) (pc' := 342) ?_
                refine Goes.retI X (by simp) rfl ?_
                exact rfl
    · have h463 : c388 = 45 := by simpa [if_icmp.holds] using q440
      have ha : own_refN 3 [(own_cl c388), (own_cl c389), (own_cl c390)] = own_refA 3 1 [(own_cl c388), (own_cl c389), (own_cl c390)] := congrArg (fun z => own_refA 3 z [(own_cl c388), (own_cl c389), (own_cl c390)]) (if_pos ⟨by decide, (own_cl0 _).mpr h463⟩)
      refine Goes.runS X [(.iconst 1, 1)] (S' := [.int (1 : Int32)]) (pc' := 167) rfl ?_
      refine Goes.goto X (o := 4) (pc' := 171) ?_
      refine Goes.run X [(.istore 10, 2), (.aload 7, 2), (.iconst 0, 1), (.iload 6, 2), (.iload 10, 2)] (L' := #[.val (.int p0), .val (.int p1), .val (.int p2), .val (.int p3), .val (.int p4), .val (.int p5), .val (.int (3 : Int32)), .val (.ref a387), .val (.ref a393), .val (.int pv), .val (.int (1 : Int32)), .unset, .unset, .unset, .unset]) (S' := [.int (1 : Int32), .int (3 : Int32), .int (0 : Int32), .ref a387]) (pc' := 180) rfl ?_
      refine Goes.callS X 0 [0] [] (D_bad l Z a0 h0 hw a387 _ 3 1 0 (by decide) (by decide) (by decide) c388 rfl) (wd hw 57 rfl) (wd hw 58 rfl) (wd hw 4 rfl) (wd hw 59 rfl) pd_y_6 rfl (st := []) rfl rfl (G := []) rfl rfl ?_
      rintro _ _ ⟨rfl, rfl⟩
      refine ⟨Or.inr (Or.inr fun _ q => Or.inr (Or.inr q)), ?_⟩
      refine Goes.runS X [(.aload 7, 2), (.iconst 1, 1), (.iload 6, 2), (.iload 10, 2)] (S' := [.int (1 : Int32), .int (3 : Int32), .int (1 : Int32), .ref a387, .int (Int32.ofNat (own_badN 3 1 0 (own_cl c388)))]) (pc' := 190) rfl ?_
      refine Goes.callS X 1 [0] [] (D_bad l Z a0 h0 hw a387 _ 3 1 1 (by decide) (by decide) (by decide) c389 rfl) (wd hw 57 rfl) (wd hw 58 rfl) (wd hw 4 rfl) (wd hw 59 rfl) pd_y_6 rfl (st := [.int (Int32.ofNat (own_badN 3 1 0 (own_cl c388)))]) rfl rfl (G := []) rfl rfl ?_
      rintro _ _ ⟨rfl, rfl⟩
      refine ⟨Or.inr (Or.inr fun _ q => Or.inr (Or.inr q)), ?_⟩
      refine Goes.runS X [(.iadd, 1), (.aload 7, 2), (.iconst 2, 1), (.iload 6, 2), (.iload 10, 2)] (S' := [.int (1 : Int32), .int (3 : Int32), .int (2 : Int32), .ref a387, .int ((Int32.ofNat (own_badN 3 1 0 (own_cl c388))) + (Int32.ofNat (own_badN 3 1 1 (own_cl c389))))]) (pc' := 201) rfl ?_
      refine Goes.callS X 1 [0] [] (D_bad l Z a0 h0 hw a387 _ 3 1 2 (by decide) (by decide) (by decide) c390 rfl) (wd hw 57 rfl) (wd hw 58 rfl) (wd hw 4 rfl) (wd hw 59 rfl) pd_y_6 rfl (st := [.int ((Int32.ofNat (own_badN 3 1 0 (own_cl c388))) + (Int32.ofNat (own_badN 3 1 1 (own_cl c389))))]) rfl rfl (G := []) rfl rfl ?_
      rintro _ _ ⟨rfl, rfl⟩
      refine ⟨Or.inr (Or.inr fun _ q => Or.inr (Or.inr q)), ?_⟩
      refine Goes.runS X [(.iadd, 1), (.aload 7, 2), (.iconst 3, 1), (.iload 6, 2), (.iload 10, 2)] (S' := [.int (1 : Int32), .int (3 : Int32), .int (3 : Int32), .ref a387, .int (((Int32.ofNat (own_badN 3 1 0 (own_cl c388))) + (Int32.ofNat (own_badN 3 1 1 (own_cl c389)))) + (Int32.ofNat (own_badN 3 1 2 (own_cl c390))))]) (pc' := 212) rfl ?_
      refine Goes.callS X 1 [0] [] (D_bad l Z a0 h0 hw a387 _ 3 1 3 (by decide) (by decide) (by decide) c391 rfl) (wd hw 57 rfl) (wd hw 58 rfl) (wd hw 4 rfl) (wd hw 59 rfl) pd_y_6 rfl (st := [.int (((Int32.ofNat (own_badN 3 1 0 (own_cl c388))) + (Int32.ofNat (own_badN 3 1 1 (own_cl c389)))) + (Int32.ofNat (own_badN 3 1 2 (own_cl c390))))]) rfl rfl (G := []) rfl rfl ?_
      rintro _ _ ⟨rfl, rfl⟩
      refine ⟨Or.inr (Or.inr fun _ q => Or.inr (Or.inr q)), ?_⟩
      refine Goes.runS X [(.iadd, 1), (.aload 7, 2), (.iconst 4, 1), (.iload 6, 2), (.iload 10, 2)] (S' := [.int (1 : Int32), .int (3 : Int32), .int (4 : Int32), .ref a387, .int ((((Int32.ofNat (own_badN 3 1 0 (own_cl c388))) + (Int32.ofNat (own_badN 3 1 1 (own_cl c389)))) + (Int32.ofNat (own_badN 3 1 2 (own_cl c390)))) + (Int32.ofNat (own_badN 3 1 3 (own_cl c391))))]) (pc' := 223) rfl ?_
      refine Goes.callS X 1 [0] [] (D_bad l Z a0 h0 hw a387 _ 3 1 4 (by decide) (by decide) (by decide) c392 rfl) (wd hw 57 rfl) (wd hw 58 rfl) (wd hw 4 rfl) (wd hw 59 rfl) pd_y_6 rfl (st := [.int ((((Int32.ofNat (own_badN 3 1 0 (own_cl c388))) + (Int32.ofNat (own_badN 3 1 1 (own_cl c389)))) + (Int32.ofNat (own_badN 3 1 2 (own_cl c390)))) + (Int32.ofNat (own_badN 3 1 3 (own_cl c391))))]) rfl rfl (G := []) rfl rfl ?_
      rintro _ _ ⟨rfl, rfl⟩
      refine ⟨Or.inr (Or.inr fun _ q => Or.inr (Or.inr q)), ?_⟩
      refine Goes.runS X [(.iadd, 1)] (S' := [.int (((((Int32.ofNat (own_badN 3 1 0 (own_cl c388))) + (Int32.ofNat (own_badN 3 1 1 (own_cl c389)))) + (Int32.ofNat (own_badN 3 1 2 (own_cl c390)))) + (Int32.ofNat (own_badN 3 1 3 (own_cl c391)))) + (Int32.ofNat (own_badN 3 1 4 (own_cl c392))))]) (pc' := 227) rfl ?_
      obtain ⟨bad, hbad⟩ : ∃ x, own_badL 3 1 [(own_cl c388), (own_cl c389), (own_cl c390)] = x := ⟨_, rfl⟩
      have lbad : bad ≤ 9 := hbad ▸ own_badL_le _ _ _
      rw [show (((((Int32.ofNat (own_badN 3 1 0 (own_cl c388))) + (Int32.ofNat (own_badN 3 1 1 (own_cl c389)))) + (Int32.ofNat (own_badN 3 1 2 (own_cl c390)))) + (Int32.ofNat (own_badN 3 1 3 (own_cl c391)))) + (Int32.ofNat (own_badN 3 1 4 (own_cl c392)))) = Int32.ofNat bad from by rw [← hbad]; simp only [← Int32.ofNat_add]; rfl]
      show Goes _ _ _ _ _ _ _ _ _ _ _ _ _ _ _ _ _ _ _ _ [(a387, ar "[C" .char [.int c388, .int c389, .int c390, .int c391, .int c392])] 16 399 (mkF m 227 #[.val (.int p0), .val (.int p1), .val (.int p2), .val (.int p3), .val (.int p4), .val (.int p5), .val (.int (3 : Int32)), .val (.ref a387), .val (.ref a393), .val (.int pv), .val (.int (1 : Int32)), .unset, .unset, .unset, .unset] [.int (Int32.ofNat bad)])
      refine Goes.run X [(.istore 11, 2), (.aload 7, 2), (.iconst 0, 1), (.iload 6, 2)] (L' := #[.val (.int p0), .val (.int p1), .val (.int p2), .val (.int p3), .val (.int p4), .val (.int p5), .val (.int (3 : Int32)), .val (.ref a387), .val (.ref a393), .val (.int pv), .val (.int (1 : Int32)), .val (.int (Int32.ofNat bad)), .unset, .unset, .unset]) (S' := [.int (3 : Int32), .int (0 : Int32), .ref a387]) (pc' := 234) rfl ?_
      refine Goes.callS X 0 [0] [] (D_dot l Z a0 h0 hw a387 _ 3 0 (by omega) (by decide) c388 rfl) (wd hw 60 rfl) (wd hw 61 rfl) (wd hw 4 rfl) (wd hw 62 rfl) pd_y_7 rfl (st := []) rfl rfl (G := []) rfl rfl ?_
      rintro _ _ ⟨rfl, rfl⟩
      refine ⟨Or.inr (Or.inr fun _ q => Or.inr (Or.inr q)), ?_⟩
      refine Goes.runS X [(.aload 7, 2), (.iconst 1, 1), (.iload 6, 2)] (S' := [.int (3 : Int32), .int (1 : Int32), .ref a387, .int (Int32.ofNat (own_dotN 3 0 (own_cl c388)))]) (pc' := 242) rfl ?_
      refine Goes.callS X 1 [0] [] (D_dot l Z a0 h0 hw a387 _ 3 1 (by omega) (by decide) c389 rfl) (wd hw 60 rfl) (wd hw 61 rfl) (wd hw 4 rfl) (wd hw 62 rfl) pd_y_7 rfl (st := [.int (Int32.ofNat (own_dotN 3 0 (own_cl c388)))]) rfl rfl (G := []) rfl rfl ?_
      rintro _ _ ⟨rfl, rfl⟩
      refine ⟨Or.inr (Or.inr fun _ q => Or.inr (Or.inr q)), ?_⟩
      refine Goes.runS X [(.iadd, 1), (.aload 7, 2), (.iconst 2, 1), (.iload 6, 2)] (S' := [.int (3 : Int32), .int (2 : Int32), .ref a387, .int ((Int32.ofNat (own_dotN 3 0 (own_cl c388))) + (Int32.ofNat (own_dotN 3 1 (own_cl c389))))]) (pc' := 251) rfl ?_
      refine Goes.callS X 1 [0] [] (D_dot l Z a0 h0 hw a387 _ 3 2 (by omega) (by decide) c390 rfl) (wd hw 60 rfl) (wd hw 61 rfl) (wd hw 4 rfl) (wd hw 62 rfl) pd_y_7 rfl (st := [.int ((Int32.ofNat (own_dotN 3 0 (own_cl c388))) + (Int32.ofNat (own_dotN 3 1 (own_cl c389))))]) rfl rfl (G := []) rfl rfl ?_
      rintro _ _ ⟨rfl, rfl⟩
      refine ⟨Or.inr (Or.inr fun _ q => Or.inr (Or.inr q)), ?_⟩
      refine Goes.runS X [(.iadd, 1), (.aload 7, 2), (.iconst 3, 1), (.iload 6, 2)] (S' := [.int (3 : Int32), .int (3 : Int32), .ref a387, .int (((Int32.ofNat (own_dotN 3 0 (own_cl c388))) + (Int32.ofNat (own_dotN 3 1 (own_cl c389)))) + (Int32.ofNat (own_dotN 3 2 (own_cl c390))))]) (pc' := 260) rfl ?_
      refine Goes.callS X 1 [0] [] (D_dot l Z a0 h0 hw a387 _ 3 3 (by omega) (by decide) c391 rfl) (wd hw 60 rfl) (wd hw 61 rfl) (wd hw 4 rfl) (wd hw 62 rfl) pd_y_7 rfl (st := [.int (((Int32.ofNat (own_dotN 3 0 (own_cl c388))) + (Int32.ofNat (own_dotN 3 1 (own_cl c389)))) + (Int32.ofNat (own_dotN 3 2 (own_cl c390))))]) rfl rfl (G := []) rfl rfl ?_
      rintro _ _ ⟨rfl, rfl⟩
      refine ⟨Or.inr (Or.inr fun _ q => Or.inr (Or.inr q)), ?_⟩
      refine Goes.runS X [(.iadd, 1), (.aload 7, 2), (.iconst 4, 1), (.iload 6, 2)] (S' := [.int (3 : Int32), .int (4 : Int32), .ref a387, .int ((((Int32.ofNat (own_dotN 3 0 (own_cl c388))) + (Int32.ofNat (own_dotN 3 1 (own_cl c389)))) + (Int32.ofNat (own_dotN 3 2 (own_cl c390)))) + (Int32.ofNat (own_dotN 3 3 (own_cl c391))))]) (pc' := 269) rfl ?_
      refine Goes.callS X 1 [0] [] (D_dot l Z a0 h0 hw a387 _ 3 4 (by omega) (by decide) c392 rfl) (wd hw 60 rfl) (wd hw 61 rfl) (wd hw 4 rfl) (wd hw 62 rfl) pd_y_7 rfl (st := [.int ((((Int32.ofNat (own_dotN 3 0 (own_cl c388))) + (Int32.ofNat (own_dotN 3 1 (own_cl c389)))) + (Int32.ofNat (own_dotN 3 2 (own_cl c390)))) + (Int32.ofNat (own_dotN 3 3 (own_cl c391))))]) rfl rfl (G := []) rfl rfl ?_
      rintro _ _ ⟨rfl, rfl⟩
      refine ⟨Or.inr (Or.inr fun _ q => Or.inr (Or.inr q)), ?_⟩
      refine Goes.runS X [(.iadd, 1)] (S' := [.int (((((Int32.ofNat (own_dotN 3 0 (own_cl c388))) + (Int32.ofNat (own_dotN 3 1 (own_cl c389)))) + (Int32.ofNat (own_dotN 3 2 (own_cl c390)))) + (Int32.ofNat (own_dotN 3 3 (own_cl c391)))) + (Int32.ofNat (own_dotN 3 4 (own_cl c392))))]) (pc' := 273) rfl ?_
      obtain ⟨dots, hdots⟩ : ∃ x, own_dotL 3 [(own_cl c388), (own_cl c389), (own_cl c390)] = x := ⟨_, rfl⟩
      have ldots : dots ≤ 9 := hdots ▸ own_dotL_le _ _
      rw [show (((((Int32.ofNat (own_dotN 3 0 (own_cl c388))) + (Int32.ofNat (own_dotN 3 1 (own_cl c389)))) + (Int32.ofNat (own_dotN 3 2 (own_cl c390)))) + (Int32.ofNat (own_dotN 3 3 (own_cl c391)))) + (Int32.ofNat (own_dotN 3 4 (own_cl c392)))) = Int32.ofNat dots from by rw [← hdots]; simp only [← Int32.ofNat_add]; rfl]
      show Goes _ _ _ _ _ _ _ _ _ _ _ _ _ _ _ _ _ _ _ _ [(a387, ar "[C" .char [.int c388, .int c389, .int c390, .int c391, .int c392])] 16 399 (mkF m 273 #[.val (.int p0), .val (.int p1), .val (.int p2), .val (.int p3), .val (.int p4), .val (.int p5), .val (.int (3 : Int32)), .val (.ref a387), .val (.ref a393), .val (.int pv), .val (.int (1 : Int32)), .val (.int (Int32.ofNat bad)), .unset, .unset, .unset] [.int (Int32.ofNat dots)])
      refine Goes.run X [(.istore 12, 2), (.aload 7, 2), (.iload 6, 2)] (L' := #[.val (.int p0), .val (.int p1), .val (.int p2), .val (.int p3), .val (.int p4), .val (.int p5), .val (.int (3 : Int32)), .val (.ref a387), .val (.ref a393), .val (.int pv), .val (.int (1 : Int32)), .val (.int (Int32.ofNat bad)), .val (.int (Int32.ofNat dots)), .unset, .unset]) (S' := [.int (3 : Int32), .ref a387]) (pc' := 279) rfl ?_
      refine Goes.callS X 0 [0] [] (D_fd l Z a0 h0 hw a387 c388 c389 c390 c391 c392 3 (by decide)) (wd hw 63 rfl) (wd hw 64 rfl) (wd hw 4 rfl) (wd hw 65 rfl) pd_y_8 rfl (st := []) rfl rfl (G := []) rfl rfl ?_
      rintro _ _ ⟨rfl, rfl⟩
      refine ⟨Or.inr (Or.inr fun _ q => Or.inr (Or.inr q)), ?_⟩
      obtain ⟨fd, hfd⟩ : ∃ x, own_fdL 3 [(own_cl c388), (own_cl c389), (own_cl c390)] = x := ⟨_, rfl⟩
      rw [show own_fdN 3 (own_cl c388) (own_cl c389) (own_cl c390) (own_cl c391) (own_cl c392) = fd from hfd]
      have lfd : fd ≤ 9 := hfd ▸ own_fdN_le _ _ _ _ _ _
      show Goes _ _ _ _ _ _ _ _ _ _ _ _ _ _ _ _ _ _ _ _ [(a387, ar "[C" .char [.int c388, .int c389, .int c390, .int c391, .int c392])] 16 399 (mkF m 282 #[.val (.int p0), .val (.int p1), .val (.int p2), .val (.int p3), .val (.int p4), .val (.int p5), .val (.int (3 : Int32)), .val (.ref a387), .val (.ref a393), .val (.int pv), .val (.int (1 : Int32)), .val (.int (Int32.ofNat bad)), .val (.int (Int32.ofNat dots)), .unset, .unset] [.int (own_fdI fd)])
      refine Goes.run X [(.istore 13, 2), (.iload 6, 2), (.iload 10, 2)] (L' := #[.val (.int p0), .val (.int p1), .val (.int p2), .val (.int p3), .val (.int p4), .val (.int p5), .val (.int (3 : Int32)), .val (.ref a387), .val (.ref a393), .val (.int pv), .val (.int (1 : Int32)), .val (.int (Int32.ofNat bad)), .val (.int (Int32.ofNat dots)), .val (.int (own_fdI fd)), .unset]) (S' := [.int (1 : Int32), .int (3 : Int32)]) (pc' := 288) rfl ?_
      refine Goes.if2 X (pc' := 327) (o := 39) (cd := .le) (fun q => absurd q (by decide)) (fun _ => ?_)
      refine Goes.runS X [(.iload 11, 2)] (S' := [.int (Int32.ofNat bad)]) (pc' := 293) rfl ?_
      refine Goes.if1 X (pc' := 327) (o := 34) (cd := .ne) (fun q464 => ?_) (fun q464 => ?_)
      · have h465 := own_sT (own_s0 _ lbad) q464
        refine Goes.run X [(.iconst 0, 1), (.istore 14, 2), (.iload 9, 2), (.iload 14, 2)] (L' := #[.val (.int p0), .val (.int p1), .val (.int p2), .val (.int p3), .val (.int p4), .val (.int p5), .val (.int (3 : Int32)), .val (.ref a387), .val (.ref a393), .val (.int pv), .val (.int (1 : Int32)), .val (.int (Int32.ofNat bad)), .val (.int (Int32.ofNat dots)), .val (.int (own_fdI fd)), .val (.int (0 : Int32))]) (S' := [.int (0 : Int32), .int pv]) (pc' := 334) rfl ?_
        have hp466 : pv = 0 := by rw [← hpv, ha, own_refA]; simp [hbad, hdots, hfd, h465]
        refine Goes.if2 X (pc' := 341) (o := 7) (cd := .ne) (fun q => absurd (q.symm.trans (by rw [hp466]; decide : if_icmp.holds .ne pv (0 : Int32) = false)) (by decide)) (fun _ => ?_)
        refine Goes.runS X [(.iconst 1, 1)] (S' := [.int (1 : Int32)]) (pc' := 338) rfl ?_
        refine Goes.goto X (o := 4) (pc' := 342) ?_
        refine Goes.retI X (by simp) rfl ?_
        exact rfl
      · have h467 := own_sF (own_s0 _ lbad) q464
        have h467 := Classical.not_not.mp h467
        refine Goes.runS X [(.iload 12, 2), (.iconst 1, 1)] (S' := [.int (1 : Int32), .int (Int32.ofNat dots)]) (pc' := 299) rfl ?_
        refine Goes.if2 X (pc' := 327) (o := 28) (cd := .gt) (fun q468 => ?_) (fun q468 => ?_)
        · have h469 := own_sT (own_s1 _ ldots) q468
          refine Goes.run X [(.iconst 0, 1), (.istore 14, 2), (.iload 9, 2), (.iload 14, 2)] (L' := #[.val (.int p0), .val (.int p1), .val (.int p2), .val (.int p3), .val (.int p4), .val (.int p5), .val (.int (3 : Int32)), .val (.ref a387), .val (.ref a393), .val (.int pv), .val (.int (1 : Int32)), .val (.int (Int32.ofNat bad)), .val (.int (Int32.ofNat dots)), .val (.int (own_fdI fd)), .val (.int (0 : Int32))]) (S' := [.int (0 : Int32), .int pv]) (pc' := 334) rfl ?_
          have hp470 : pv = 0 := by rw [← hpv, ha, own_refA]; simp [hbad, hdots, hfd, h467, h469]
          refine Goes.if2 X (pc' := 341) (o := 7) (cd := .ne) (fun q => absurd (q.symm.trans (by rw [hp470]; decide : if_icmp.holds .ne pv (0 : Int32) = false)) (by decide)) (fun _ => ?_)
          refine Goes.runS X [(.iconst 1, 1)] (S' := [.int (1 : Int32)]) (pc' := 338) rfl ?_
          refine Goes.goto X (o := 4) (pc' := 342) ?_
          refine Goes.retI X (by simp) rfl ?_
          exact rfl
        · have h471 := own_sF (own_s1 _ ldots) q468
          refine Goes.runS X [(.iload 12, 2)] (S' := [.int (Int32.ofNat dots)]) (pc' := 304) rfl ?_
          refine Goes.if1 X (pc' := 323) (o := 19) (cd := .eq) (fun q472 => ?_) (fun q472 => ?_)
          · have h473 := own_sT (own_s0' _ ldots) q472
            refine Goes.runS X [(.iconst 1, 1)] (S' := [.int (1 : Int32)]) (pc' := 324) rfl ?_
            refine Goes.goto X (o := 4) (pc' := 328) ?_
            refine Goes.run X [(.istore 14, 2), (.iload 9, 2), (.iload 14, 2)] (L' := #[.val (.int p0), .val (.int p1), .val (.int p2), .val (.int p3), .val (.int p4), .val (.int p5), .val (.int (3 : Int32)), .val (.ref a387), .val (.ref a393), .val (.int pv), .val (.int (1 : Int32)), .val (.int (Int32.ofNat bad)), .val (.int (Int32.ofNat dots)), .val (.int (own_fdI fd)), .val (.int (1 : Int32))]) (S' := [.int (1 : Int32), .int pv]) (pc' := 334) rfl ?_
            have hp474 : pv = 1 := by rw [← hpv, ha, own_refA]; simp [hbad, hdots, hfd, h467, h471, h473]
            refine Goes.if2 X (pc' := 341) (o := 7) (cd := .ne) (fun q => absurd (q.symm.trans (by rw [hp474]; decide : if_icmp.holds .ne pv (1 : Int32) = false)) (by decide)) (fun _ => ?_)
            refine Goes.runS X [(.iconst 1, 1)] (S' := [.int (1 : Int32)]) (pc' := 338) rfl ?_
            refine Goes.goto X (o := 4) (pc' := 342) ?_
            refine Goes.retI X (by simp) rfl ?_
            exact rfl
          · have h475 := own_sF (own_s0' _ ldots) q472
            refine Goes.runS X [(.iload 13, 2), (.iload 10, 2)] (S' := [.int (1 : Int32), .int (own_fdI fd)]) (pc' := 311) rfl ?_
            refine Goes.if2 X (pc' := 327) (o := 16) (cd := .eq) (fun q476 => ?_) (fun q476 => ?_)
            · have h477 := own_sT (own_s3 _ lfd 1 (by decide)) q476
              refine Goes.run X [(.iconst 0, 1), (.istore 14, 2), (.iload 9, 2), (.iload 14, 2)] (L' := #[.val (.int p0), .val (.int p1), .val (.int p2), .val (.int p3), .val (.int p4), .val (.int p5), .val (.int (3 : Int32)), .val (.ref a387), .val (.ref a393), .val (.int pv), .val (.int (1 : Int32)), .val (.int (Int32.ofNat bad)), .val (.int (Int32.ofNat dots)), .val (.int (own_fdI fd)), .val (.int (0 : Int32))]) (S' := [.int (0 : Int32), .int pv]) (pc' := 334) rfl ?_
              have hp478 : pv = 0 := by rw [← hpv, ha, own_refA]; simp [hbad, hdots, hfd, h467, h471, h475, h477]
              refine Goes.if2 X (pc' := 341) (o := 7) (cd := .ne) (fun q => absurd (q.symm.trans (by rw [hp478]; decide : if_icmp.holds .ne pv (0 : Int32) = false)) (by decide)) (fun _ => ?_)
              refine Goes.runS X [(.iconst 1, 1)] (S' := [.int (1 : Int32)]) (pc' := 338) rfl ?_
              refine Goes.goto X (o := 4) (pc' := 342) ?_
              refine Goes.retI X (by simp) rfl ?_
              exact rfl
            · have h479 := own_sF (own_s3 _ lfd 1 (by decide)) q476
              refine Goes.runS X [(.iload 13, 2), (.iload 6, 2), (.iconst 1, 1), (.isub, 1)] (S' := [.int (2 : Int32), .int (own_fdI fd)]) (pc' := 320) rfl ?_
              refine Goes.if2 X (pc' := 327) (o := 7) (cd := .eq) (fun q480 => ?_) (fun q480 => ?_)
              · have h481 := own_sT (own_s3 _ lfd 2 (by decide)) q480
                refine Goes.run X [(.iconst 0, 1), (.istore 14, 2), (.iload 9, 2), (.iload 14, 2)] (L' := #[.val (.int p0), .val (.int p1), .val (.int p2), .val (.int p3), .val (.int p4), .val (.int p5), .val (.int (3 : Int32)), .val (.ref a387), .val (.ref a393), .val (.int pv), .val (.int (1 : Int32)), .val (.int (Int32.ofNat bad)), .val (.int (Int32.ofNat dots)), .val (.int (own_fdI fd)), .val (.int (0 : Int32))]) (S' := [.int (0 : Int32), .int pv]) (pc' := 334) rfl ?_
                have hp482 : pv = 0 := by rw [← hpv, ha, own_refA]; simp [hbad, hdots, hfd, h467, h471, h475, h479, h481]
                refine Goes.if2 X (pc' := 341) (o := 7) (cd := .ne) (fun q => absurd (q.symm.trans (by rw [hp482]; decide : if_icmp.holds .ne pv (0 : Int32) = false)) (by decide)) (fun _ => ?_)
                refine Goes.runS X [(.iconst 1, 1)] (S' := [.int (1 : Int32)]) (pc' := 338) rfl ?_
                refine Goes.goto X (o := 4) (pc' := 342) ?_
                refine Goes.retI X (by simp) rfl ?_
                exact rfl
              · have h483 := own_sF (own_s3 _ lfd 2 (by decide)) q480
                refine Goes.runS X [(.iconst 1, 1)] (S' := [.int (1 : Int32)]) (pc' := 324) rfl ?_
                refine Goes.goto X (o := 4) (pc' := 328) ?_
                refine Goes.run X [(.istore 14, 2), (.iload 9, 2), (.iload 14, 2)] (L' := #[.val (.int p0), .val (.int p1), .val (.int p2), .val (.int p3), .val (.int p4), .val (.int p5), .val (.int (3 : Int32)), .val (.ref a387), .val (.ref a393), .val (.int pv), .val (.int (1 : Int32)), .val (.int (Int32.ofNat bad)), .val (.int (Int32.ofNat dots)), .val (.int (own_fdI fd)), .val (.int (1 : Int32))]) (S' := [.int (1 : Int32), .int pv]) (pc' := 334) rfl ?_
                have hp484 : pv = 1 := by rw [← hpv, ha, own_refA]; simp [hbad, hdots, hfd, h467, h471, h475, h479, h483]
                refine Goes.if2 X (pc' := 341) (o := 7) (cd := .ne) (fun q => absurd (q.symm.trans (by rw [hp484]; decide : if_icmp.holds .ne pv (1 : Int32) = false)) (by decide)) (fun _ => ?_)
                refine Goes.runS X [(.iconst 1, 1)] (S' := [.int (1 : Int32)]) (pc' := 338) rfl ?_
                refine Goes.goto X (o := 4) (pc' := 342) ?_
                refine Goes.retI X (by simp) rfl ?_
                exact rfl
  · refine Goes.runS X [(.iload_n 0, 1)] (S' := [.int p0]) (pc' := 1) rfl ?_
    refine Goes.ldcI X (wd hw 0 rfl) ?_
    refine Goes.run X [(.iand, 1), (.bipush 6, 2), (.irem, 1), (.istore 6, 2)] (L' := #[.val (.int p0), .val (.int p1), .val (.int p2), .val (.int p3), .val (.int p4), .val (.int p5), .val (.int ((p0 &&& (2147483647 : Int32)) % (6 : Int32))), .unset, .unset, .unset, .unset, .unset, .unset, .unset, .unset]) (S' := []) (pc' := 9) rfl ?_
    rw [e4]
    show Goes _ _ _ _ _ _ _ _ _ _ _ _ _ _ _ _ _ _ _ _ [] 0 0 (mkF m 9 #[.val (.int p0), .val (.int p1), .val (.int p2), .val (.int p3), .val (.int p4), .val (.int p5), .val (.int (4 : Int32)), .unset, .unset, .unset, .unset, .unset, .unset, .unset, .unset] [])
    refine Goes.runS X [(.iconst 5, 1)] (S' := [.int (5 : Int32)]) (pc' := 10) rfl ?_
    refine Goes.newarr X (aty := .char) "[C" 5 5 (wd hw 1 rfl) (by decide +kernel) (by decide) (by decide) (fun a485 => ?_)
    refine Goes.run X [(.astore 7, 2), (.aload 7, 2), (.iconst 0, 1), (.iload_n 1, 1)] (L' := #[.val (.int p0), .val (.int p1), .val (.int p2), .val (.int p3), .val (.int p4), .val (.int p5), .val (.int (4 : Int32)), .val (.ref a485), .unset, .unset, .unset, .unset, .unset, .unset, .unset]) (S' := [.int p1, .int (0 : Int32), .ref a485]) (pc' := 18) rfl ?_
    refine Goes.callSW X 2 [] [0] (D_pick l Z a0 h0 hw cs hCS hcs sio hSIO hsio p1) (wd hw 2 rfl) (wd hw 3 rfl) (wd hw 4 rfl) (wd hw 5 rfl) pd_y_0 rfl (st := [.int (0 : Int32), .ref a485]) rfl rfl (G := [(a485, ar "[C" .char [.int 0, .int 0, .int 0, .int 0, .int 0])]) rfl rfl ?_
    rintro _ _ vm0 k0 ⟨c486, rfl, h0c486, h1c486, rfl⟩ X
    refine ⟨Or.inr (Or.inr fun _ q => Or.inr (Or.inr q)), ?_⟩
    refine Goes.castore X 0 0 rfl (by decide) (by decide) (Nat.le_of_ble_eq_true rfl) ?_
    rw [own_nca h0c486 h1c486]
    refine Goes.runS X [(.aload 7, 2), (.iconst 1, 1), (.iload_n 2, 1)] (S' := [.int p2, .int (1 : Int32), .ref a485]) (pc' := 26) rfl ?_
    refine Goes.callSW X 2 [] [0] (D_pick l Z a0 h0 hw cs hCS hcs sio hSIO hsio p2) (wd hw 2 rfl) (wd hw 3 rfl) (wd hw 4 rfl) (wd hw 5 rfl) pd_y_0 rfl (st := [.int (1 : Int32), .ref a485]) rfl rfl (G := [(a485, ar "[C" .char [.int c486, .int 0, .int 0, .int 0, .int 0])]) rfl rfl ?_
    rintro _ _ vm0 k0 ⟨c487, rfl, h0c487, h1c487, rfl⟩ X
    refine ⟨Or.inr (Or.inr fun _ q => Or.inr (Or.inr q)), ?_⟩
    refine Goes.castore X 0 1 rfl (by decide) (by decide) (Nat.le_of_ble_eq_true rfl) ?_
    rw [own_nca h0c487 h1c487]
    refine Goes.runS X [(.aload 7, 2), (.iconst 2, 1), (.iload_n 3, 1)] (S' := [.int p3, .int (2 : Int32), .ref a485]) (pc' := 34) rfl ?_
    refine Goes.callSW X 2 [] [0] (D_pick l Z a0 h0 hw cs hCS hcs sio hSIO hsio p3) (wd hw 2 rfl) (wd hw 3 rfl) (wd hw 4 rfl) (wd hw 5 rfl) pd_y_0 rfl (st := [.int (2 : Int32), .ref a485]) rfl rfl (G := [(a485, ar "[C" .char [.int c486, .int c487, .int 0, .int 0, .int 0])]) rfl rfl ?_
    rintro _ _ vm0 k0 ⟨c488, rfl, h0c488, h1c488, rfl⟩ X
    refine ⟨Or.inr (Or.inr fun _ q => Or.inr (Or.inr q)), ?_⟩
    refine Goes.castore X 0 2 rfl (by decide) (by decide) (Nat.le_of_ble_eq_true rfl) ?_
    rw [own_nca h0c488 h1c488]
    refine Goes.runS X [(.aload 7, 2), (.iconst 3, 1), (.iload 4, 2)] (S' := [.int p4, .int (3 : Int32), .ref a485]) (pc' := 43) rfl ?_
    refine Goes.callSW X 2 [] [0] (D_pick l Z a0 h0 hw cs hCS hcs sio hSIO hsio p4) (wd hw 2 rfl) (wd hw 3 rfl) (wd hw 4 rfl) (wd hw 5 rfl) pd_y_0 rfl (st := [.int (3 : Int32), .ref a485]) rfl rfl (G := [(a485, ar "[C" .char [.int c486, .int c487, .int c488, .int 0, .int 0])]) rfl rfl ?_
    rintro _ _ vm0 k0 ⟨c489, rfl, h0c489, h1c489, rfl⟩ X
    refine ⟨Or.inr (Or.inr fun _ q => Or.inr (Or.inr q)), ?_⟩
    refine Goes.castore X 0 3 rfl (by decide) (by decide) (Nat.le_of_ble_eq_true rfl) ?_
    rw [own_nca h0c489 h1c489]
    refine Goes.runS X [(.aload 7, 2), (.iconst 4, 1), (.iload 5, 2)] (S' := [.int p5, .int (4 : Int32), .ref a485]) (pc' := 52) rfl ?_
    refine Goes.callSW X 2 [] [0] (D_pick l Z a0 h0 hw cs hCS hcs sio hSIO hsio p5) (wd hw 2 rfl) (wd hw 3 rfl) (wd hw 4 rfl) (wd hw 5 rfl) pd_y_0 rfl (st := [.int (4 : Int32), .ref a485]) rfl rfl (G := [(a485, ar "[C" .char [.int c486, .int c487, .int c488, .int c489, .int 0])]) rfl rfl ?_
    rintro _ _ vm0 k0 ⟨c490, rfl, h0c490, h1c490, rfl⟩ X
    refine ⟨Or.inr (Or.inr fun _ q => Or.inr (Or.inr q)), ?_⟩
    refine Goes.castore X 0 4 rfl (by decide) (by decide) (Nat.le_of_ble_eq_true rfl) ?_
    rw [own_nca h0c490 h1c490]
    refine Goes.new X _ (wd hw 6 rfl) (wd hw 7 rfl) (wd hw 8 rfl) (new_Dig hw) (fun a491 => ?_)
    refine Goes.runS X [(.dup, 1), (.iconst 0, 1)] (S' := [.int (0 : Int32), .ref a491, .ref a491]) (pc' := 61) rfl ?_
    refine Goes.callN X 1 [1] [0] (D_dctor l Z a0 h0 hw cs hCS hcs a491) rfl (wd hw 9 rfl) (wd hw 10 rfl) (wd hw 8 rfl) (wd hw 11 rfl) pd_y_1 rfl (st := [.ref a491]) rfl rfl (G := [(a485, ar "[C" .char [.int c486, .int c487, .int c488, .int c489, .int c490])]) rfl rfl ?_
    rintro _ _ ⟨u492, b493, h494, b495, rfl, rfl⟩
    refine ⟨Or.inl rfl, ?_⟩
    refine Goes.run X [(.astore 8, 2), (.iload 6, 2)] (L' := #[.val (.int p0), .val (.int p1), .val (.int p2), .val (.int p3), .val (.int p4), .val (.int p5), .val (.int (4 : Int32)), .val (.ref a485), .val (.ref a491), .unset, .unset, .unset, .unset, .unset, .unset]) (S' := [.int (4 : Int32)]) (pc' := 68) rfl ?_
    refine Goes.if1 X (pc' := 81) (o := 13) (cd := .le) (fun q => absurd q (by decide)) (fun _ => ?_)
    refine Goes.runS X [(.aload 8, 2), (.aload 7, 2), (.iconst 0, 1)] (S' := [.int (0 : Int32), .ref a485, .ref a491]) (pc' := 76) rfl ?_
    refine Goes.caload X 4 0 rfl (by decide) (by decide) rfl ?_
    refine Goes.callV X 0 0 [0, 1, 2, 3] [4] rfl (D_add l Z a0 h0 hw cs hCS hcs a491 u492 h494 b493 (.ref b495) 0 0 (Or.inl rfl : own_ok 0) 0 0 0 0 0 0 (by omega) (List.replicate 16 (.int 0)) (by decide) c486 (own_le h1c486)) (wd hw 66 rfl) (wd hw 67 rfl) (wd hw 69 rfl) (wd hw 68 rfl) (own_nf X (wd hw 69 rfl)) (wd hw 8 rfl) (wd hw 70 rfl) pd_y_9 rfl (st := []) rfl rfl (G := [(a485, ar "[C" .char [.int c486, .int c487, .int c488, .int c489, .int c490])]) rfl rfl ?_
    rintro _ _ ⟨r496, sg497, pl498, ne499, ed500, ex501, k502, bs503, rfl, hk504, hbs505, rfl⟩
    refine ⟨Or.inl rfl, ?_⟩
    obtain ⟨s506, hs507⟩ : ∃ z, (own_st 0 c486) = z := ⟨_, rfl⟩
    obtain ⟨e508, he509⟩ : ∃ z, (own_en 0 0 c486) = z := ⟨_, rfl⟩
    rw [hs507, he509]
    refine Goes.runS X [(.pop, 1), (.iload 6, 2), (.iconst 1, 1)] (S' := [.int (1 : Int32), .int (4 : Int32)]) (pc' := 84) rfl ?_
    refine Goes.if2 X (pc' := 97) (o := 13) (cd := .le) (fun q => absurd q (by decide)) (fun _ => ?_)
    refine Goes.runS X [(.aload 8, 2), (.aload 7, 2), (.iconst 1, 1)] (S' := [.int (1 : Int32), .ref a485, .ref a491]) (pc' := 92) rfl ?_
    refine Goes.caload X 4 1 rfl (by decide) (by decide) rfl ?_
    refine Goes.callV X 0 0 [0, 1, 2, 3] [4] rfl (D_add l Z a0 h0 hw cs hCS hcs a491 u492 h494 b493 (.ref b495) s506 e508 (hs507 ▸ own_st_ok c486 (Or.inl rfl : own_ok 0)) sg497 pl498 ne499 ed500 ex501 k502 (by omega) bs503 hbs505 c487 (own_le h1c487)) (wd hw 66 rfl) (wd hw 67 rfl) (wd hw 69 rfl) (wd hw 68 rfl) (own_nf X (wd hw 69 rfl)) (wd hw 8 rfl) (wd hw 70 rfl) pd_y_9 rfl (st := []) rfl rfl (G := [(a485, ar "[C" .char [.int c486, .int c487, .int c488, .int c489, .int c490])]) rfl rfl ?_
    rintro _ _ ⟨r510, sg511, pl512, ne513, ed514, ex515, k516, bs517, rfl, hk518, hbs519, rfl⟩
    refine ⟨Or.inl rfl, ?_⟩
    obtain ⟨s520, hs521⟩ : ∃ z, (own_st s506 c487) = z := ⟨_, rfl⟩
    obtain ⟨e522, he523⟩ : ∃ z, (own_en e508 s506 c487) = z := ⟨_, rfl⟩
    rw [hs521, he523]
    refine Goes.runS X [(.pop, 1), (.iload 6, 2), (.iconst 2, 1)] (S' := [.int (2 : Int32), .int (4 : Int32)]) (pc' := 100) rfl ?_
    refine Goes.if2 X (pc' := 113) (o := 13) (cd := .le) (fun q => absurd q (by decide)) (fun _ => ?_)
    refine Goes.runS X [(.aload 8, 2), (.aload 7, 2), (.iconst 2, 1)] (S' := [.int (2 : Int32), .ref a485, .ref a491]) (pc' := 108) rfl ?_
    refine Goes.caload X 4 2 rfl (by decide) (by decide) rfl ?_
    refine Goes.callV X 0 0 [0, 1, 2, 3] [4] rfl (D_add l Z a0 h0 hw cs hCS hcs a491 u492 h494 b493 (.ref b495) s520 e522 (hs521 ▸ own_st_ok c487 (hs507 ▸ own_st_ok c486 (Or.inl rfl : own_ok 0))) sg511 pl512 ne513 ed514 ex515 k516 (by omega) bs517 hbs519 c488 (own_le h1c488)) (wd hw 66 rfl) (wd hw 67 rfl) (wd hw 69 rfl) (wd hw 68 rfl) (own_nf X (wd hw 69 rfl)) (wd hw 8 rfl) (wd hw 70 rfl) pd_y_9 rfl (st := []) rfl rfl (G := [(a485, ar "[C" .char [.int c486, .int c487, .int c488, .int c489, .int c490])]) rfl rfl ?_
    rintro _ _ ⟨r524, sg525, pl526, ne527, ed528, ex529, k530, bs531, rfl, hk532, hbs533, rfl⟩
    refine ⟨Or.inl rfl, ?_⟩
    obtain ⟨s534, hs535⟩ : ∃ z, (own_st s520 c488) = z := ⟨_, rfl⟩
    obtain ⟨e536, he537⟩ : ∃ z, (own_en e522 s520 c488) = z := ⟨_, rfl⟩
    rw [hs535, he537]
    refine Goes.runS X [(.pop, 1), (.iload 6, 2), (.iconst 3, 1)] (S' := [.int (3 : Int32), .int (4 : Int32)]) (pc' := 116) rfl ?_
    refine Goes.if2 X (pc' := 129) (o := 13) (cd := .le) (fun q => absurd q (by decide)) (fun _ => ?_)
    refine Goes.runS X [(.aload 8, 2), (.aload 7, 2), (.iconst 3, 1)] (S' := [.int (3 : Int32), .ref a485, .ref a491]) (pc' := 124) rfl ?_
    refine Goes.caload X 4 3 rfl (by decide) (by decide) rfl ?_
    refine Goes.callV X 0 0 [0, 1, 2, 3] [4] rfl (D_add l Z a0 h0 hw cs hCS hcs a491 u492 h494 b493 (.ref b495) s534 e536 (hs535 ▸ own_st_ok c488 (hs521 ▸ own_st_ok c487 (hs507 ▸ own_st_ok c486 (Or.inl rfl : own_ok 0)))) sg525 pl526 ne527 ed528 ex529 k530 (by omega) bs531 hbs533 c489 (own_le h1c489)) (wd hw 66 rfl) (wd hw 67 rfl) (wd hw 69 rfl) (wd hw 68 rfl) (own_nf X (wd hw 69 rfl)) (wd hw 8 rfl) (wd hw 70 rfl) pd_y_9 rfl (st := []) rfl rfl (G := [(a485, ar "[C" .char [.int c486, .int c487, .int c488, .int c489, .int c490])]) rfl rfl ?_
    rintro _ _ ⟨r538, sg539, pl540, ne541, ed542, ex543, k544, bs545, rfl, hk546, hbs547, rfl⟩
    refine ⟨Or.inl rfl, ?_⟩
    obtain ⟨s548, hs549⟩ : ∃ z, (own_st s534 c489) = z := ⟨_, rfl⟩
    obtain ⟨e550, he551⟩ : ∃ z, (own_en e536 s534 c489) = z := ⟨_, rfl⟩
    rw [hs549, he551]
    refine Goes.runS X [(.pop, 1), (.iload 6, 2), (.iconst 4, 1)] (S' := [.int (4 : Int32), .int (4 : Int32)]) (pc' := 132) rfl ?_
    refine Goes.if2 X (pc' := 145) (o := 13) (cd := .le) (fun _ => ?_) (fun q => absurd q (by decide))
    refine Goes.runS X [(.aload 8, 2)] (S' := [.ref a491]) (pc' := 147) rfl ?_
    refine Goes.callV X 0 0 [0] [1, 2, 3, 4] rfl (D_pl l Z a0 h0 hw a491 s548 e550 (.long sg539) (.long pl540) (.int ne541) (.int ed542) (.long ex543) (.ref u492) (.ref h494) (.int 0) (.int 0)) (wd hw 45 rfl) (wd hw 46 rfl) (wd hw 48 rfl) (wd hw 47 rfl) (own_nf X (wd hw 48 rfl)) (wd hw 8 rfl) (wd hw 49 rfl) pd_y_4 rfl (st := []) rfl rfl (G := [(u492, o_SB (.ref b493) (.int 0) (.int (Int32.ofNat k544))), (b493, oBs bs545), (h494, o_SB (.ref b495) (.int 0) (.int 0)), (a485, ar "[C" .char [.int c486, .int c487, .int c488, .int c489, .int c490])]) rfl rfl ?_
    rintro _ _ ⟨rfl, rfl⟩
    refine ⟨Or.inr (Or.inr fun _ q => Or.inr (Or.inr q)), ?_⟩
    obtain ⟨pv, hpv⟩ : ∃ z, own_pl s548 e550 = z := ⟨_, rfl⟩
    rw [hpv]
    subst he551
    subst hs549
    subst he537
    subst hs535
    subst he523
    subst hs521
    subst he509
    subst hs507
    rw [own_law4 c486 c487 c488 c489 0] at hpv
    refine Goes.sub [4] (G := [(a485, ar "[C" .char [.int c486, .int c487, .int c488, .int c489, .int c490])]) rfl ?_
    refine Goes.run X [(.istore 9, 2), (.iload 6, 2)] (L' := #[.val (.int p0), .val (.int p1), .val (.int p2), .val (.int p3), .val (.int p4), .val (.int p5), .val (.int (4 : Int32)), .val (.ref a485), .val (.ref a491), .val (.int pv), .unset, .unset, .unset, .unset, .unset]) (S' := [.int (4 : Int32)]) (pc' := 154) rfl ?_
    refine Goes.if1 X (pc' := 170) (o := 16) (cd := .le) (fun q => absurd q (by decide)) (fun _ => ?_)
    refine Goes.runS X [(.aload 7, 2), (.iconst 0, 1)] (S' := [.int (0 : Int32), .ref a485]) (pc' := 160) rfl ?_
    refine Goes.caload X 0 0 rfl (by decide) (by decide) rfl ?_
    refine Goes.runS X [(.bipush 45, 2)] (S' := [.int (45 : Int32), .int c486]) (pc' := 163) rfl ?_
    refine Goes.if2 X (pc' := 170) (o := 7) (cd := .ne) (fun q552 => ?_) (fun q552 => ?_)
    · have h553 : ¬ c486 = 45 := by simpa [if_icmp.holds] using q552
      have ha : own_refN 4 [(own_cl c486), (own_cl c487), (own_cl c488), (own_cl c489)] = own_refA 4 0 [(own_cl c486), (own_cl c487), (own_cl c488), (own_cl c489)] := congrArg (fun z => own_refA 4 z [(own_cl c486), (own_cl c487), (own_cl c488), (own_cl c489)]) (if_neg fun z => h553 ((own_cl0 _).mp z.2))
      refine Goes.runS X [(.iconst 0, 1)] (S' := [.int (0 : Int32)]) (pc' := 171) rfl ?_
      refine Goes.run X [(.istore 10, 2), (.aload 7, 2), (.iconst 0, 1), (.iload 6, 2), (.iload 10, 2)] (L' := #[.val (.int p0), .val (.int p1), .val (.int p2), .val (.int p3), .val (.int p4), .val (.int p5), .val (.int (4 : Int32)), .val (.ref a485), .val (.ref a491), .val (.int pv), .val (.int (0 : Int32)), .unset, .unset, .unset, .unset]) (S' := [.int (0 : Int32), .int (4 : Int32), .int (0 : Int32), .ref a485]) (pc' := 180) rfl ?_
      refine Goes.callS X 0 [0] [] (D_bad l Z a0 h0 hw a485 _ 4 0 0 (by decide) (by decide) (by decide) c486 rfl) (wd hw 57 rfl) (wd hw 58 rfl) (wd hw 4 rfl) (wd hw 59 rfl) pd_y_6 rfl (st := []) rfl rfl (G := []) rfl rfl ?_
      rintro _ _ ⟨rfl, rfl⟩
      refine ⟨Or.inr (Or.inr fun _ q => Or.inr (Or.inr q)), ?_⟩
      refine Goes.runS X [(.aload 7, 2), (.iconst 1, 1), (.iload 6, 2), (.iload 10, 2)] (S' := [.int (0 : Int32), .int (4 : Int32), .int (1 : Int32), .ref a485, .int (Int32.ofNat (own_badN 4 0 0 (own_cl c486)))]) (pc' := 190) rfl ?_
      refine Goes.callS X 1 [0] [] (D_bad l Z a0 h0 hw a485 _ 4 0 1 (by decide) (by decide) (by decide) c487 rfl) (wd hw 57 rfl) (wd hw 58 rfl) (wd hw 4 rfl) (wd hw 59 rfl) pd_y_6 rfl (st := [.int (Int32.ofNat (own_badN 4 0 0 (own_cl c486)))]) rfl rfl (G := []) rfl rfl ?_
      rintro _ _ ⟨rfl, rfl⟩
      refine ⟨Or.inr (Or.inr fun _ q => Or.inr (Or.inr q)), ?_⟩
      refine Goes.runS X [(.iadd, 1), (.aload 7, 2), (.iconst 2, 1), (.iload 6, 2), (.iload 10, 2)] (S' := [.int (0 : Int32), .int (4 : Int32), .int (2 : Int32), .ref a485, .int ((Int32.ofNat (own_badN 4 0 0 (own_cl c486))) + (Int32.ofNat (own_badN 4 0 1 (own_cl c487))))]) (pc' := 201) rfl ?_
      refine Goes.callS X 1 [0] [] (D_bad l Z a0 h0 hw a485 _ 4 0 2 (by decide) (by decide) (by decide) c488 rfl) (wd hw 57 rfl) (wd hw 58 rfl) (wd hw 4 rfl) (wd hw 59 rfl) pd_y_6 rfl (st := [.int ((Int32.ofNat (own_badN 4 0 0 (own_cl c486))) + (Int32.ofNat (own_badN 4 0 1 (own_cl c487))))]) rfl rfl (G := []) rfl rfl ?_
      rintro _ _ ⟨rfl, rfl⟩
      refine ⟨Or.inr (Or.inr fun _ q => Or.inr (Or.inr q)), ?_⟩
      refine Goes.runS X [(.iadd, 1), (.aload 7, 2), (.iconst 3, 1), (.iload 6, 2), (.iload 10, 2)] (S' := [.int (0 : Int32), .int (4 : Int32), .int (3 : Int32), .ref a485, .int (((Int32.ofNat (own_badN 4 0 0 (own_cl c486))) + (Int32.ofNat (own_badN 4 0 1 (own_cl c487)))) + (Int32.ofNat (own_badN 4 0 2 (own_cl c488))))]) (pc' := 212) rfl ?_
      refine Goes.callS X 1 [0] [] (D_bad l Z a0 h0 hw a485 _ 4 0 3 (by decide) (by decide) (by decide) c489 rfl) (wd hw 57 rfl) (wd hw 58 rfl) (wd hw 4 rfl) (wd hw 59 rfl) pd_y_6 rfl (st := [.int (((Int32.ofNat (own_badN 4 0 0 (own_cl c486))) + (Int32.ofNat (own_badN 4 0 1 (own_cl c487)))) + (Int32.ofNat (own_badN 4 0 2 (own_cl c488))))]) rfl rfl (G := []) rfl rfl ?_
      rintro _ _ ⟨rfl, rfl⟩
      refine ⟨Or.inr (Or.inr fun _ q => Or.inr (Or.inr q)), ?_⟩
      refine Goes.runS X [(.iadd, 1), (.aload 7, 2), (.iconst 4, 1), (.iload 6, 2), (.iload 10, 2)] (S' := [.int (0 : Int32), .int (4 : Int32), .int (4 : Int32), .ref a485, .int ((((Int32.ofNat (own_badN 4 0 0 (own_cl c486))) + (Int32.ofNat (own_badN 4 0 1 (own_cl c487)))) + (Int32.ofNat (own_badN 4 0 2 (own_cl c488)))) + (Int32.ofNat (own_badN 4 0 3 (own_cl c489))))]) (pc' := 223) rfl ?_
      refine Goes.callS X 1 [0] [] (D_bad l Z a0 h0 hw a485 _ 4 0 4 (by decide) (by decide) (by decide) c490 rfl) (wd hw 57 rfl) (wd hw 58 rfl) (wd hw 4 rfl) (wd hw 59 rfl) pd_y_6 rfl (st := [.int ((((Int32.ofNat (own_badN 4 0 0 (own_cl c486))) + (Int32.ofNat (own_badN 4 0 1 (own_cl c487)))) + (Int32.ofNat (own_badN 4 0 2 (own_cl c488)))) + (Int32.ofNat (own_badN 4 0 3 (own_cl c489))))]) rfl rfl (G := []) rfl rfl ?_
      rintro _ _ ⟨rfl, rfl⟩
      refine ⟨Or.inr (Or.inr fun _ q => Or.inr (Or.inr q)), ?_⟩
      refine Goes.runS X [(.iadd, 1)] (S' := [.int (((((Int32.ofNat (own_badN 4 0 0 (own_cl c486))) + (Int32.ofNat (own_badN 4 0 1 (own_cl c487)))) + (Int32.ofNat (own_badN 4 0 2 (own_cl c488)))) + (Int32.ofNat (own_badN 4 0 3 (own_cl c489)))) + (Int32.ofNat (own_badN 4 0 4 (own_cl c490))))]) (pc' := 227) rfl ?_
      obtain ⟨bad, hbad⟩ : ∃ x, own_badL 4 0 [(own_cl c486), (own_cl c487), (own_cl c488), (own_cl c489)] = x := ⟨_, rfl⟩
      have lbad : bad ≤ 9 := hbad ▸ own_badL_le _ _ _
      rw [show (((((Int32.ofNat (own_badN 4 0 0 (own_cl c486))) + (Int32.ofNat (own_badN 4 0 1 (own_cl c487)))) + (Int32.ofNat (own_badN 4 0 2 (own_cl c488)))) + (Int32.ofNat (own_badN 4 0 3 (own_cl c489)))) + (Int32.ofNat (own_badN 4 0 4 (own_cl c490)))) = Int32.ofNat bad from by rw [← hbad]; simp only [← Int32.ofNat_add]; rfl]
      show Goes _ _ _ _ _ _ _ _ _ _ _ _ _ _ _ _ _ _ _ _ [(a485, ar "[C" .char [.int c486, .int c487, .int c488, .int c489, .int c490])] 16 399 (mkF m 227 #[.val (.int p0), .val (.int p1), .val (.int p2), .val (.int p3), .val (.int p4), .val (.int p5), .val (.int (4 : Int32)), .val (.ref a485), .val (.ref a491), .val (.int pv), .val (.int (0 : Int32)), .unset, .unset, .unset, .unset] [.int (Int32.ofNat bad)])
      refine Goes.run X [(.istore 11, 2), (.aload 7, 2), (.iconst 0, 1), (.iload 6, 2)] (L' := #[.val (.int p0), .val (.int p1), .val (.int p2), .val (.int p3), .val (.int p4), .val (.int p5), .val (.int (4 : Int32)), .val (.ref a485), .val (.ref a491), .val (.int pv), .val (.int (0 : Int32)), .val (.int (Int32.ofNat bad)), .unset, .unset, .unset]) (S' := [.int (4 : Int32), .int (0 : Int32), .ref a485]) (pc' := 234) rfl ?_
      refine Goes.callS X 0 [0] [] (D_dot l Z a0 h0 hw a485 _ 4 0 (by omega) (by decide) c486 rfl) (wd hw 60 rfl) (wd hw 61 rfl) (wd hw 4 rfl) (wd hw 62 rfl) pd_y_7 rfl (st := []) rfl rfl (G := []) rfl rfl ?_
      rintro _ _ ⟨rfl, rfl⟩
      refine ⟨Or.inr (Or.inr fun _ q => Or.inr (Or.inr q)), ?_⟩
      refine Goes.runS X [(.aload 7, 2), (.iconst 1, 1), (.iload 6, 2)] (S' := [.int (4 : Int32), .int (1 : Int32), .ref a485, .int (Int32.ofNat (own_dotN 4 0 (own_cl c486)))]) (pc' := 242) rfl ?_
      refine Goes.callS X 1 [0] [] (D_dot l Z a0 h0 hw a485 _ 4 1 (by omega) (by decide) c487 rfl) (wd hw 60 rfl) (wd hw 61 rfl) (wd hw 4 rfl) (wd hw 62 rfl) pd_y_7 rfl (st := [.int (Int32.ofNat (own_dotN 4 0 (own_cl c486)))]) rfl rfl (G := []) rfl rfl ?_
      rintro _ _ ⟨rfl, rfl⟩
      refine ⟨Or.inr (Or.inr fun _ q => Or.inr (Or.inr q)), ?_⟩
      refine Goes.runS X [(.iadd, 1), (.aload 7, 2), (.iconst 2, 1), (.iload 6, 2)] (S' := [.int (4 : Int32), .int (2 : Int32), .ref a485, .int ((Int32.ofNat (own_dotN 4 0 (own_cl c486))) + (Int32.ofNat (own_dotN 4 1 (own_cl c487))))]) (pc' := 251) rfl ?_
      refine Goes.callS X 1 [0] [] (D_dot l Z a0 h0 hw a485 _ 4 2 (by omega) (by decide) c488 rfl) (wd hw 60 rfl) (wd hw 61 rfl) (wd hw 4 rfl) (wd hw 62 rfl) pd_y_7 rfl (st := [.int ((Int32.ofNat (own_dotN 4 0 (own_cl c486))) + (Int32.ofNat (own_dotN 4 1 (own_cl c487))))]) rfl rfl (G := []) rfl rfl ?_
      rintro _ _ ⟨rfl, rfl⟩
      refine ⟨Or.inr (Or.inr fun _ q => Or.inr (Or.inr q)), ?_⟩
      refine Goes.runS X [(.iadd, 1), (.aload 7, 2), (.iconst 3, 1), (.iload 6, 2)] (S' := [.int (4 : Int32), .int (3 : Int32), .ref a485, .int (((Int32.ofNat (own_dotN 4 0 (own_cl c486))) + (Int32.ofNat (own_dotN 4 1 (own_cl c487)))) + (Int32.ofNat (own_dotN 4 2 (own_cl c488))))]) (pc' := 260) rfl ?_
      refine Goes.callS X 1 [0] [] (D_dot l Z a0 h0 hw a485 _ 4 3 (by omega) (by decide) c489 rfl) (wd hw 60 rfl) (wd hw 61 rfl) (wd hw 4 rfl) (wd hw 62 rfl) pd_y_7 rfl (st := [.int (((Int32.ofNat (own_dotN 4 0 (own_cl c486))) + (Int32.ofNat (own_dotN 4 1 (own_cl c487)))) + (Int32.ofNat (own_dotN 4 2 (own_cl c488))))]) rfl rfl (G := []) rfl rfl ?_
      rintro _ _ ⟨rfl, rfl⟩
      refine ⟨Or.inr (Or.inr fun _ q => Or.inr (Or.inr q)), ?_⟩
      refine Goes.runS X [(.iadd, 1), (.aload 7, 2), (.iconst 4, 1), (.iload 6, 2)] (S' := [.int (4 : Int32), .int (4 : Int32), .ref a485, .int ((((Int32.ofNat (own_dotN 4 0 (own_cl c486))) + (Int32.ofNat (own_dotN 4 1 (own_cl c487)))) + (Int32.ofNat (own_dotN 4 2 (own_cl c488)))) + (Int32.ofNat (own_dotN 4 3 (own_cl c489))))]) (pc' := 269) rfl ?_
      refine Goes.callS X 1 [0] [] (D_dot l Z a0 h0 hw a485 _ 4 4 (by omega) (by decide) c490 rfl) (wd hw 60 rfl) (wd hw 61 rfl) (wd hw 4 rfl) (wd hw 62 rfl) pd_y_7 rfl (st := [.int ((((Int32.ofNat (own_dotN 4 0 (own_cl c486))) + (Int32.ofNat (own_dotN 4 1 (own_cl c487)))) + (Int32.ofNat (own_dotN 4 2 (own_cl c488)))) + (Int32.ofNat (own_dotN 4 3 (own_cl c489))))]) rfl rfl (G := []) rfl rfl ?_
      rintro _ _ ⟨rfl, rfl⟩
      refine ⟨Or.inr (Or.inr fun _ q => Or.inr (Or.inr q)), ?_⟩
      refine Goes.runS X [(.iadd, 1)] (S' := [.int (((((Int32.ofNat (own_dotN 4 0 (own_cl c486))) + (Int32.ofNat (own_dotN 4 1 (own_cl c487)))) + (Int32.ofNat (own_dotN 4 2 (own_cl c488)))) + (Int32.ofNat (own_dotN 4 3 (own_cl c489)))) + (Int32.ofNat (own_dotN 4 4 (own_cl c490))))]) (pc' := 273) rfl ?_
      obtain ⟨dots, hdots⟩ : ∃ x, own_dotL 4 [(own_cl c486), (own_cl c487), (own_cl c488), (own_cl c489)] = x := ⟨_, rfl⟩
      have ldots : dots ≤ 9 := hdots ▸ own_dotL_le _ _
      rw [show (((((Int32.ofNat (own_dotN 4 0 (own_cl c486))) + (Int32.ofNat (own_dotN 4 1 (own_cl c487)))) + (Int32.ofNat (own_dotN 4 2 (own_cl c488)))) + (Int32.ofNat (own_dotN 4 3 (own_cl c489)))) + (Int32.ofNat (own_dotN 4 4 (own_cl c490)))) = Int32.ofNat dots from by rw [← hdots]; simp only [← Int32.ofNat_add]; rfl]
      show Goes _ _ _ _ _ _ _ _ _ _ _ _ _ _ _ _ _ _ _ _ [(a485, ar "[C" .char [.int c486, .int c487, .int c488, .int c489, .int c490])] 16 399 (mkF m 273 #[.val (.int p0), .val (.int p1), .val (.int p2), .val (.int p3), .val (.int p4), .val (.int p5), .val (.int (4 : Int32)), .val (.ref a485), .val (.ref a491), .val (.int pv), .val (.int (0 : Int32)), .val (.int (Int32.ofNat bad)), .unset, .unset, .unset] [.int (Int32.ofNat dots)])
      refine Goes.run X [(.istore 12, 2), (.aload 7, 2), (.iload 6, 2)] (L' := #[.val (.int p0), .val (.int p1), .val (.int p2), .val (.int p3), .val (.int p4), .val (.int p5), .val (.int (4 : Int32)), .val (.ref a485), .val (.ref a491), .val (.int pv), .val (.int (0 : Int32)), .val (.int (Int32.ofNat bad)), .val (.int (Int32.ofNat dots)), .unset, .unset]) (S' := [.int (4 : Int32), .ref a485]) (pc' := 279) rfl ?_
      refine Goes.callS X 0 [0] [] (D_fd l Z a0 h0 hw a485 c486 c487 c488 c489 c490 4 (by decide)) (wd hw 63 rfl) (wd hw 64 rfl) (wd hw 4 rfl) (wd hw 65 rfl) pd_y_8 rfl (st := []) rfl rfl (G := []) rfl rfl ?_
      rintro _ _ ⟨rfl, rfl⟩
      refine ⟨Or.inr (Or.inr fun _ q => Or.inr (Or.inr q)), ?_⟩
      obtain ⟨fd, hfd⟩ : ∃ x, own_fdL 4 [(own_cl c486), (own_cl c487), (own_cl c488), (own_cl c489)] = x := ⟨_, rfl⟩
      rw [show own_fdN 4 (own_cl c486) (own_cl c487) (own_cl c488) (own_cl c489) (own_cl c490) = fd from hfd]
      have lfd : fd ≤ 9 := hfd ▸ own_fdN_le _ _ _ _ _ _
      show Goes _ _ _ _ _ _ _ _ _ _ _ _ _ _ _ _ _ _ _ _ [(a485, ar "[C" .char [.int c486, .int c487, .int c488, .int c489, .int c490])] 16 399 (mkF m 282 #[.val (.int p0), .val (.int p1), .val (.int p2), .val (.int p3), .val (.int p4), .val (.int p5), .val (.int (4 : Int32)), .val (.ref a485), .val (.ref a491), .val (.int pv), .val (.int (0 : Int32)), .val (.int (Int32.ofNat bad)), .val (.int (Int32.ofNat dots)), .unset, .unset] [.int (own_fdI fd)])
      refine Goes.run X [(.istore 13, 2), (.iload 6, 2), (.iload 10, 2)] (L' := #[.val (.int p0), .val (.int p1), .val (.int p2), .val (.int p3), .val (.int p4), .val (.int p5), .val (.int (4 : Int32)), .val (.ref a485), .val (.ref a491), .val (.int pv), .val (.int (0 : Int32)), .val (.int (Int32.ofNat bad)), .val (.int (Int32.ofNat dots)), .val (.int (own_fdI fd)), .unset]) (S' := [.int (0 : Int32), .int (4 : Int32)]) (pc' := 288) rfl ?_
      refine Goes.if2 X (pc' := 327) (o := 39) (cd := .le) (fun q => absurd q (by decide)) (fun _ => ?_)
      refine Goes.runS X [(.iload 11, 2)] (S' := [.int (Int32.ofNat bad)]) (pc' := 293) rfl ?_
      refine Goes.if1 X (pc' := 327) (o := 34) (cd := .ne) (fun q554 => ?_) (fun q554 => ?_)
      · have h555 := own_sT (own_s0 _ lbad) q554
        refine Goes.run X [(.iconst 0, 1), (.istore 14, 2), (.iload 9, 2), (.iload 14, 2)] (L' := #[.val (.int p0), .val (.int p1), .val (.int p2), .val (.int p3), .val (.int p4), .val (.int p5), .val (.int (4 : Int32)), .val (.ref a485), .val (.ref a491), .val (.int pv), .val (.int (0 : Int32)), .val (.int (Int32.ofNat bad)), .val (.int (Int32.ofNat dots)), .val (.int (own_fdI fd)), .val (.int (0 : Int32))]) (S' := [.int (0 : Int32), .int pv]) (pc' := 334) rfl ?_
        have hp556 : pv = 0 := by rw [← hpv, ha, own_refA]; simp [hbad, hdots, hfd, h555]
        refine Goes.if2 X (pc' := 341) (o := 7) (cd := .ne) (fun q => absurd (q.symm.trans (by rw [hp556]; decide : if_icmp.holds .ne pv (0 : Int32) = false)) (by decide)) (fun _ => ?_)
        refine Goes.runS X [(.iconst 1, 1)] (S' := [.int (1 : Int32)]) (pc' := 338) rfl ?_
        refine Goes.goto X (o := 4) (pc' := 342) ?_
        refine Goes.retI X (by simp) rfl ?_
        exact rfl
      · have h557 := own_sF (own_s0 _ lbad) q554
        have h557 := Classical.not_not.mp h557
        refine Goes.runS X [(.iload 12, 2), (.iconst 1, 1)] (S' := [.int (1 : Int32), .int (Int32.ofNat dots)]) (pc' := 299) rfl ?_
        refine Goes.if2 X (pc' := 327) (o := 28) (cd := .gt) (fun q558 => ?_) (fun q558 => ?_)
        · have h559 := own_sT (own_s1 _ ldots) q558
          refine Goes.run X [(.iconst 0, 1), (.istore 14, 2), (.iload 9, 2), (.iload 14, 2)] (L' := #[.val (.int p0), .val (.int p1), .val (.int p2), .val (.int p3), .val (.int p4), .val (.int p5), .val (.int (4 : Int32)), .val (.ref a485), .val (.ref a491), .val (.int pv), .val (.int (0 : Int32)), .val (.int (Int32.ofNat bad)), .val (.int (Int32.ofNat dots)), .val (.int (own_fdI fd)), .val (.int (0 : Int32))]) (S' := [.int (0 : Int32), .int pv]) (pc' := 334) rfl ?_
          have hp560 : pv = 0 := by rw [← hpv, ha, own_refA]; simp [hbad, hdots, hfd, h557, h559]
          refine Goes.if2 X (pc' := 341) (o := 7) (cd := .ne) (fun q => absurd (q.symm.trans (by rw [hp560]; decide : if_icmp.holds .ne pv (0 : Int32) = false)) (by decide)) (fun _ => ?_)
          refine Goes.runS X [(.iconst 1, 1)] (S' := [.int (1 : Int32)]) (pc' := 338) rfl ?_
          refine Goes.goto X (o := 4) (pc' := 342) ?_
          refine Goes.retI X (by simp) rfl ?_
          exact rfl
        · have h561 := own_sF (own_s1 _ ldots) q558
          refine Goes.runS X [(.iload 12, 2)] (S' := [.int (Int32.ofNat dots)]) (pc' := 304) rfl ?_
          refine Goes.if1 X (pc' := 323) (o := 19) (cd := .eq) (fun q562 => ?_) (fun q562 => ?_)
          · have h563 := own_sT (own_s0' _ ldots) q562
            refine Goes.runS X [(.iconst 1, 1)] (S' := [.int (1 : Int32)]) (pc' := 324) rfl ?_
            refine Goes.goto X (o := 4) (pc' := 328) ?_
            refine Goes.run X [(.istore 14, 2), (.iload 9, 2), (.iload 14, 2)] (L' := #[.val (.int p0), .val (.int p1), .val (.int p2), .val (.int p3), .val (.int p4), .val (.int p5), .val (.int (4 : Int32)), .val (.ref a485), .val (.ref a491), .val (.int pv), .val (.int (0 : Int32)), .val (.int (Int32.ofNat bad)), .val (.int (Int32.ofNat dots)), .val (.int (own_fdI fd)), .val (.int (1 : Int32))]) (S' := [.int (1 : Int32), .int pv]) (pc' := 334) rfl ?_
            have hp564 : pv = 1 := by rw [← hpv, ha, own_refA]; simp [hbad, hdots, hfd, h557, h561, h563]
            refine Goes.if2 X (pc' := 341) (o := 7) (cd := .ne) (fun q => absurd (q.symm.trans (by rw [hp564]; decide : if_icmp.holds .ne pv (1 : Int32) = false)) (by decide)) (fun _ => ?_)
            refine Goes.runS X [(.iconst 1, 1)] (S' := [.int (1 : Int32)]) (pc' := 338) rfl ?_
            refine Goes.goto X (o := 4) (pc' := 342) ?_
            refine Goes.retI X (by simp) rfl ?_
            exact rfl
          · have h565 := own_sF (own_s0' _ ldots) q562
            refine Goes.runS X [(.iload 13, 2), (.iload 10, 2)] (S' := [.int (0 : Int32), .int (own_fdI fd)]) (pc' := 311) rfl ?_
            refine Goes.if2 X (pc' := 327) (o := 16) (cd := .eq) (fun q566 => ?_) (fun q566 => ?_)
            · have h567 := own_sT (own_s3 _ lfd 0 (by decide)) q566
              refine Goes.run X [(.iconst 0, 1), (.istore 14, 2), (.iload 9, 2), (.iload 14, 2)] (L' := #[.val (.int p0), .val (.int p1), .val (.int p2), .val (.int p3), .val (.int p4), .val (.int p5), .val (.int (4 : Int32)), .val (.ref a485), .val (.ref a491), .val (.int pv), .val (.int (0 : Int32)), .val (.int (Int32.ofNat bad)), .val (.int (Int32.ofNat dots)), .val (.int (own_fdI fd)), .val (.int (0 : Int32))]) (S' := [.int (0 : Int32), .int pv]) (pc' := 334) rfl ?_
              have hp568 : pv = 0 := by rw [← hpv, ha, own_refA]; simp [hbad, hdots, hfd, h557, h561, h565, h567]
              refine Goes.if2 X (pc' := 341) (o := 7) (cd := .ne) (fun q => absurd (q.symm.trans (by rw [hp568]; decide : if_icmp.holds .ne pv (0 : Int32) = false)) (by decide)) (fun _ => ?_)
              refine Goes.runS X [(.iconst 1, 1)] (S' := [.int (1 : Int32)]) (pc' := 338) rfl ?_
              refine Goes.goto X (o := 4) (pc' := 342) ?_
              refine Goes.retI X (by simp) rfl ?_
              exact rfl
            · have h569 := own_sF (own_s3 _ lfd 0 (by decide)) q566
              refine Goes.runS X [(.iload 13, 2), (.iload 6, 2), (.iconst 1, 1), (.isub, 1)] (S' := [.int (3 : Int32), .int (own_fdI fd)]) (pc' := 320) rfl ?_
              refine Goes.if2 X (pc' := 327) (o := 7) (cd := .eq) (fun q570 => ?_) (fun q570 => ?_)
              · have h571 := own_sT (own_s3 _ lfd 3 (by decide)) q570
                refine Goes.run X [(.iconst 0, 1), (.istore 14, 2), (.iload 9, 2), (.iload 14, 2)] (L' := #[.val (.int p0), .val (.int p1), .val (.int p2), .val (.int p3), .val (.int p4), .val (.int p5), .val (.int (4 : Int32)), .val (.ref a485), .val (.ref a491), .val (.int pv), .val (.int (0 : Int32)), .val (.int (Int32.ofNat bad)), .val (.int (Int32.ofNat dots)), .val (.int (own_fdI fd)), .val (.int (0 : Int32))]) (S' := [.int (0 : Int32), .int pv]) (pc' := 334) rfl ?_
                have hp572 : pv = 0 := by rw [← hpv, ha, own_refA]; simp [hbad, hdots, hfd, h557, h561, h565, h569, h571]
                refine Goes.if2 X (pc' := 341) (o := 7) (cd := .ne) (fun q => absurd (q.symm.trans (by rw [hp572]; decide : if_icmp.holds .ne pv (0 : Int32) = false)) (by decide)) (fun _ => ?_)
                refine Goes.runS X [(.iconst 1, 1)] (S' := [.int (1 : Int32)]) (pc' := 338) rfl ?_
                refine Goes.goto X (o := 4) (pc' := 342) ?_
                refine Goes.retI X (by simp) rfl ?_
                exact rfl
              · have h573 := own_sF (own_s3 _ lfd 3 (by decide)) q570
                refine Goes.runS X [(.iconst 1, 1)] (S' := [.int (1 : Int32)]) (pc' := 324) rfl ?_
                refine Goes.goto X (o := 4) (pc' := 328) ?_
                refine Goes.run X [(.istore 14, 2), (.iload 9, 2), (.iload 14, 2)] (L' := #[.val (.int p0), .val (.int p1), .val (.int p2), .val (.int p3), .val (.int p4), .val (.int p5), .val (.int (4 : Int32)), .val (.ref a485), .val (.ref a491), .val (.int pv), .val (.int (0 : Int32)), .val (.int (Int32.ofNat bad)), .val (.int (Int32.ofNat dots)), .val (.int (own_fdI fd)), .val (.int (1 : Int32))]) (S' := [.int (1 : Int32), .int pv]) (pc' := 334) rfl ?_
                have hp574 : pv = 1 := by rw [← hpv, ha, own_refA]; simp [hbad, hdots, hfd, h557, h561, h565, h569, h573]
                refine Goes.if2 X (pc' := 341) (o := 7) (cd := .ne) (fun q => absurd (q.symm.trans (by rw [hp574]; decide : if_icmp.holds .ne pv (1 : Int32) = false)) (by decide)) (fun _ => ?_)
                refine Goes.runS X [(.iconst 1, 1)] (S' := [.int (1 : Int32)]) (pc' := 338) rfl ?_
                refine Goes.goto X (o := 4) (pc' := 342) ?_
                refine Goes.retI X (by simp) rfl ?_
                exact rfl
    · have h575 : c486 = 45 := by simpa [if_icmp.holds] using q552
      have ha : own_refN 4 [(own_cl c486), (own_cl c487), (own_cl c488), (own_cl c489)] = own_refA 4 1 [(own_cl c486), (own_cl c487), (own_cl c488), (own_cl c489)] := congrArg (fun z => own_refA 4 z [(own_cl c486), (own_cl c487), (own_cl c488), (own_cl c489)]) (if_pos ⟨by decide, (own_cl0 _).mpr h575⟩)
      refine Goes.runS X [(.iconst 1, 1)] (S' := [.int (1 : Int32)]) (pc' := 167) rfl ?_
      refine Goes.goto X (o := 4) (pc' := 171) ?_
      refine Goes.run X [(.istore 10, 2), (.aload 7, 2), (.iconst 0, 1), (.iload 6, 2), (.iload 10, 2)] (L' := #[.val (.int p0), .val (.int p1), .val (.int p2), .val (.int p3), .val (.int p4), .val (.int p5), .val (.int (4 : Int32)), .val (.ref a485), .val (.ref a491), .val (.int pv), .val (.int (1 : Int32)), .unset, .unset, .unset, .unset]) (S' := [.int (1 : Int32), .int (4 : Int32), .int (0 : Int32), .ref a485]) (pc' := 180) rfl ?_
      refine Goes.callS X 0 [0] [] (D_bad l Z a0 h0 hw a485 _ 4 1 0 (by decide) (by decide) (by decide) c486 rfl) (wd hw 57 rfl) (wd hw 58 rfl) (wd hw 4 rfl) (wd hw 59 rfl) pd_y_6 rfl (st := []) rfl rfl (G := []) rfl rfl ?_
      rintro _ _ ⟨rfl, rfl⟩
      refine ⟨Or.inr (Or.inr fun _ q => Or.inr (Or.inr q)), ?_⟩
      refine Goes.runS X [(.aload 7, 2), (.iconst 1, 1), (.iload 6, 2), (.iload 10, 2)] (S' := [.int (1 : Int32), .int (4 : Int32), .int (1 : Int32), .ref a485, .int (Int32.ofNat (own_badN 4 1 0 (own_cl c486)))]) (pc' := 190) rfl ?_
      refine Goes.callS X 1 [0] [] (D_bad l Z a0 h0 hw a485 _ 4 1 1 (by decide) (by decide) (by decide) c487 rfl) (wd hw 57 rfl) (wd hw 58 rfl) (wd hw 4 rfl) (wd hw 59 rfl) pd_y_6 rfl (st := [.int (Int32.ofNat (own_badN 4 1 0 (own_cl c486)))]) rfl rfl (G := []) rfl rfl ?_
      rintro _ _ ⟨rfl, rfl⟩
      refine ⟨Or.inr (Or.inr fun _ q => Or.inr (Or.inr q)), ?_⟩
      refine Goes.runS X [(.iadd, 1), (.aload 7, 2), (.iconst 2, 1), (.iload 6, 2), (.iload 10, 2)] (S' := [.int (1 : Int32), .int (4 : Int32), .int (2 : Int32), .ref a485, .int ((Int32.ofNat (own_badN 4 1 0 (own_cl c486))) + (Int32.ofNat (own_badN 4 1 1 (own_cl c487))))]) (pc' := 201) rfl ?_
      refine Goes.callS X 1 [0] [] (D_bad l Z a0 h0 hw a485 _ 4 1 2 (by decide) (by decide) (by decide) c488 rfl) (wd hw 57 rfl) (wd hw 58 rfl) (wd hw 4 rfl) (wd hw 59 rfl) pd_y_6 rfl (st := [.int ((Int32.ofNat (own_badN 4 1 0 (own_cl c486))) + (Int32.ofNat (own_badN 4 1 1 (own_cl c487))))]) rfl rfl (G := []) rfl rfl ?_
      rintro _ _ ⟨rfl, rfl⟩
      refine ⟨Or.inr (Or.inr fun _ q => Or.inr (Or.inr q)), ?_⟩
      refine Goes.runS X [(.iadd, 1), (.aload 7, 2), (.iconst 3, 1), (.iload 6, 2), (.iload 10, 2)] (S' := [.int (1 : Int32), .int (4 : Int32), .int (3 : Int32), .ref a485, .int (((Int32.ofNat (own_badN 4 1 0 (own_cl c486))) + (Int32.ofNat (own_badN 4 1 1 (own_cl c487)))) + (Int32.ofNat (own_badN 4 1 2 (own_cl c488))))]) (pc' := 212) rfl ?_
      refine Goes.callS X 1 [0] [] (D_bad l Z a0 h0 hw a485 _ 4 1 3 (by decide) (by decide) (by decide) c489 rfl) (wd hw 57 rfl) (wd hw 58 rfl) (wd hw 4 rfl) (wd hw 59 rfl) pd_y_6 rfl (st := [.int (((Int32.ofNat (own_badN 4 1 0 (own_cl c486))) + (Int32.ofNat (own_badN 4 1 1 (own_cl c487)))) + (Int32.ofNat (own_badN 4 1 2 (own_cl c488))))]) rfl rfl (G := []) rfl rfl ?_
      rintro _ _ ⟨rfl, rfl⟩
      refine ⟨Or.inr (Or.inr fun _ q => Or.inr (Or.inr q)), ?_⟩
      refine Goes.runS X [(.iadd, 1), (.aload 7, 2), (.iconst 4, 1), (.iload 6, 2), (.iload 10, 2)] (S' := [.int (1 : Int32), .int (4 : Int32), .int (4 : Int32), .ref a485, .int ((((Int32.ofNat (own_badN 4 1 0 (own_cl c486))) + (Int32.ofNat (own_badN 4 1 1 (own_cl c487)))) + (Int32.ofNat (own_badN 4 1 2 (own_cl c488)))) + (Int32.ofNat (own_badN 4 1 3 (own_cl c489))))]) (pc' := 223) rfl ?_
      refine Goes.callS X 1 [0] [] (D_bad l Z a0 h0 hw a485 _ 4 1 4 (by decide) (by decide) (by decide) c490 rfl) (wd hw 57 rfl) (wd hw 58 rfl) (wd hw 4 rfl) (wd hw 59 rfl) pd_y_6 rfl (st := [.int ((((Int32.ofNat (own_badN 4 1 0 (own_cl c486))) + (Int32.ofNat (own_badN 4 1 1 (own_cl c487)))) + (Int32.ofNat (own_badN 4 1 2 (own_cl c488)))) + (Int32.ofNat (own_badN 4 1 3 (own_cl c489))))]) rfl rfl (G := []) rfl rfl ?_
      rintro _ _ ⟨rfl, rfl⟩
      refine ⟨Or.inr (Or.inr fun _ q => Or.inr (Or.inr q)), ?_⟩
      refine Goes.runS X [(.iadd, 1)] (S' := [.int (((((Int32.ofNat (own_badN 4 1 0 (own_cl c486))) + (Int32.ofNat (own_badN 4 1 1 (own_cl c487)))) + (Int32.ofNat (own_badN 4 1 2 (own_cl c488)))) + (Int32.ofNat (own_badN 4 1 3 (own_cl c489)))) + (Int32.ofNat (own_badN 4 1 4 (own_cl c490))))]) (pc' := 227) rfl ?_
      obtain ⟨bad, hbad⟩ : ∃ x, own_badL 4 1 [(own_cl c486), (own_cl c487), (own_cl c488), (own_cl c489)] = x := ⟨_, rfl⟩
      have lbad : bad ≤ 9 := hbad ▸ own_badL_le _ _ _
      rw [show (((((Int32.ofNat (own_badN 4 1 0 (own_cl c486))) + (Int32.ofNat (own_badN 4 1 1 (own_cl c487)))) + (Int32.ofNat (own_badN 4 1 2 (own_cl c488)))) + (Int32.ofNat (own_badN 4 1 3 (own_cl c489)))) + (Int32.ofNat (own_badN 4 1 4 (own_cl c490)))) = Int32.ofNat bad from by rw [← hbad]; simp only [← Int32.ofNat_add]; rfl]
      show Goes _ _ _ _ _ _ _ _ _ _ _ _ _ _ _ _ _ _ _ _ [(a485, ar "[C" .char [.int c486, .int c487, .int c488, .int c489, .int c490])] 16 399 (mkF m 227 #[.val (.int p0), .val (.int p1), .val (.int p2), .val (.int p3), .val (.int p4), .val (.int p5), .val (.int (4 : Int32)), .val (.ref a485), .val (.ref a491), .val (.int pv), .val (.int (1 : Int32)), .unset, .unset, .unset, .unset] [.int (Int32.ofNat bad)])
      refine Goes.run X [(.istore 11, 2), (.aload 7, 2), (.iconst 0, 1), (.iload 6, 2)] (L' := #[.val (.int p0), .val (.int p1), .val (.int p2), .val (.int p3), .val (.int p4), .val (.int p5), .val (.int (4 : Int32)), .val (.ref a485), .val (.ref a491), .val (.int pv), .val (.int (1 : Int32)), .val (.int (Int32.ofNat bad)), .unset, .unset, .unset]) (S' := [.int (4 : Int32), .int (0 : Int32), .ref a485]) (pc' := 234) rfl ?_
      refine Goes.callS X 0 [0] [] (D_dot l Z a0 h0 hw a485 _ 4 0 (by omega) (by decide) c486 rfl) (wd hw 60 rfl) (wd hw 61 rfl) (wd hw 4 rfl) (wd hw 62 rfl) pd_y_7 rfl (st := []) rfl rfl (G := []) rfl rfl ?_
      rintro _ _ ⟨rfl, rfl⟩
      refine ⟨Or.inr (Or.inr fun _ q => Or.inr (Or.inr q)), ?_⟩
      refine Goes.runS X [(.aload 7, 2), (.iconst 1, 1), (.iload 6, 2)] (S' := [.int (4 : Int32), .int (1 : Int32), .ref a485, .int (Int32.ofNat (own_dotN 4 0 (own_cl c486)))]) (pc' := 242) rfl ?_
      refine Goes.callS X 1 [0] [] (D_dot l Z a0 h0 hw a485 _ 4 1 (by omega) (by decide) c487 rfl) (wd hw 60 rfl) (wd hw 61 rfl) (wd hw 4 rfl) (wd hw 62 rfl) pd_y_7 rfl (st := [.int (Int32.ofNat (own_dotN 4 0 (own_cl c486)))]) rfl rfl (G := []) rfl rfl ?_
      rintro _ _ ⟨rfl, rfl⟩
      refine ⟨Or.inr (Or.inr fun _ q => Or.inr (Or.inr q)), ?_⟩
      refine Goes.runS X [(.iadd, 1), (.aload 7, 2), (.iconst 2, 1), (.iload 6, 2)] (S' := [.int (4 : Int32), .int (2 : Int32), .ref a485, .int ((Int32.ofNat (own_dotN 4 0 (own_cl c486))) + (Int32.ofNat (own_dotN 4 1 (own_cl c487))))]) (pc' := 251) rfl ?_
      refine Goes.callS X 1 [0] [] (D_dot l Z a0 h0 hw a485 _ 4 2 (by omega) (by decide) c488 rfl) (wd hw 60 rfl) (wd hw 61 rfl) (wd hw 4 rfl) (wd hw 62 rfl) pd_y_7 rfl (st := [.int ((Int32.ofNat (own_dotN 4 0 (own_cl c486))) + (Int32.ofNat (own_dotN 4 1 (own_cl c487))))]) rfl rfl (G := []) rfl rfl ?_
      rintro _ _ ⟨rfl, rfl⟩
      refine ⟨Or.inr (Or.inr fun _ q => Or.inr (Or.inr q)), ?_⟩
      refine Goes.runS X [(.iadd, 1), (.aload 7, 2), (.iconst 3, 1), (.iload 6, 2)] (S' := [.int (4 : Int32), .int (3 : Int32), .ref a485, .int (((Int32.ofNat (own_dotN 4 0 (own_cl c486))) + (Int32.ofNat (own_dotN 4 1 (own_cl c487)))) + (Int32.ofNat (own_dotN 4 2 (own_cl c488))))]) (pc' := 260) rfl ?_
      refine Goes.callS X 1 [0] [] (D_dot l Z a0 h0 hw a485 _ 4 3 (by omega) (by decide) c489 rfl) (wd hw 60 rfl) (wd hw 61 rfl) (wd hw 4 rfl) (wd hw 62 rfl) pd_y_7 rfl (st := [.int (((Int32.ofNat (own_dotN 4 0 (own_cl c486))) + (Int32.ofNat (own_dotN 4 1 (own_cl c487)))) + (Int32.ofNat (own_dotN 4 2 (own_cl c488))))]) rfl rfl (G := []) rfl rfl ?_
      rintro _ _ ⟨rfl, rfl⟩
      refine ⟨Or.inr (Or.inr fun _ q => Or.inr (Or.inr q)), ?_⟩
      refine Goes.runS X [(.iadd, 1), (.aload 7, 2), (.iconst 4, 1), (.iload 6, 2)] (S' := [.int (4 : Int32), .int (4 : Int32), .ref a485, .int ((((Int32.ofNat (own_dotN 4 0 (own_cl c486))) + (Int32.ofNat (own_dotN 4 1 (own_cl c487)))) + (Int32.ofNat (own_dotN 4 2 (own_cl c488)))) + (Int32.ofNat (own_dotN 4 3 (own_cl c489))))]) (pc' := 269) rfl ?_
      refine Goes.callS X 1 [0] [] (D_dot l Z a0 h0 hw a485 _ 4 4 (by omega) (by decide) c490 rfl) (wd hw 60 rfl) (wd hw 61 rfl) (wd hw 4 rfl) (wd hw 62 rfl) pd_y_7 rfl (st := [.int ((((Int32.ofNat (own_dotN 4 0 (own_cl c486))) + (Int32.ofNat (own_dotN 4 1 (own_cl c487)))) + (Int32.ofNat (own_dotN 4 2 (own_cl c488)))) + (Int32.ofNat (own_dotN 4 3 (own_cl c489))))]) rfl rfl (G := []) rfl rfl ?_
      rintro _ _ ⟨rfl, rfl⟩
      refine ⟨Or.inr (Or.inr fun _ q => Or.inr (Or.inr q)), ?_⟩
      refine Goes.runS X [(.iadd, 1)] (S' := [.int (((((Int32.ofNat (own_dotN 4 0 (own_cl c486))) + (Int32.ofNat (own_dotN 4 1 (own_cl c487)))) + (Int32.ofNat (own_dotN 4 2 (own_cl c488)))) + (Int32.ofNat (own_dotN 4 3 (own_cl c489)))) + (Int32.ofNat (own_dotN 4 4 (own_cl c490))))]) (pc' := 273) rfl ?_
      obtain ⟨dots, hdots⟩ : ∃ x, own_dotL 4 [(own_cl c486), (own_cl c487), (own_cl c488), (own_cl c489)] = x := ⟨_, rfl⟩
      have ldots : dots ≤ 9 := hdots ▸ own_dotL_le _ _
      rw [show (((((Int32.ofNat (own_dotN 4 0 (own_cl c486))) + (Int32.ofNat (own_dotN 4 1 (own_cl c487)))) + (Int32.ofNat (own_dotN 4 2 (own_cl c488)))) + (Int32.ofNat (own_dotN 4 3 (own_cl c489)))) + (Int32.ofNat (own_dotN 4 4 (own_cl c490)))) = Int32.ofNat dots from by rw [← hdots]; simp only [← Int32.ofNat_add]; rfl]
      show Goes _ _ _ _ _ _ _ _ _ _ _ _ _ _ _ _ _ _ _ _ [(a485, ar "[C" .char [.int c486, .int c487, .int c488, .int c489, .int c490])] 16 399 (mkF m 273 #[.val (.int p0), .val (.int p1), .val (.int p2), .val (.int p3), .val (.int p4), .val (.int p5), .val (.int (4 : Int32)), .val (.ref a485), .val (.ref a491), .val (.int pv), .val (.int (1 : Int32)), .val (.int (Int32.ofNat bad)), .unset, .unset, .unset] [.int (Int32.ofNat dots)])
      refine Goes.run X [(.istore 12, 2), (.aload 7, 2), (.iload 6, 2)] (L' := #[.val (.int p0), .val (.int p1), .val (.int p2), .val (.int p3), .val (.int p4), .val (.int p5), .val (.int (4 : Int32)), .val (.ref a485), .val (.ref a491), .val (.int pv), .val (.int (1 : Int32)), .val (.int (Int32.ofNat bad)), .val (.int (Int32.ofNat dots)), .unset, .unset]) (S' := [.int (4 : Int32), .ref a485]) (pc' := 279) rfl ?_
      refine Goes.callS X 0 [0] [] (D_fd l Z a0 h0 hw a485 c486 c487 c488 c489 c490 4 (by decide)) (wd hw 63 rfl) (wd hw 64 rfl) (wd hw 4 rfl) (wd hw 65 rfl) pd_y_8 rfl (st := []) rfl rfl (G := []) rfl rfl ?_
      rintro _ _ ⟨rfl, rfl⟩
      refine ⟨Or.inr (Or.inr fun _ q => Or.inr (Or.inr q)), ?_⟩
      obtain ⟨fd, hfd⟩ : ∃ x, own_fdL 4 [(own_cl c486), (own_cl c487), (own_cl c488), (own_cl c489)] = x := ⟨_, rfl⟩
      rw [show own_fdN 4 (own_cl c486) (own_cl c487) (own_cl c488) (own_cl c489) (own_cl c490) = fd from hfd]
      have lfd : fd ≤ 9 := hfd ▸ own_fdN_le _ _ _ _ _ _
      show Goes _ _ _ _ _ _ _ _ _ _ _ _ _ _ _ _ _ _ _ _ [(a485, ar "[C" .char [.int c486, .int c487, .int c488, .int c489, .int c490])] 16 399 (mkF m 282 #[.val (.int p0), .val (.int p1), .val (.int p2), .val (.int p3), .val (.int p4), .val (.int p5), .val (.int (4 : Int32)), .val (.ref a485), .val (.ref a491), .val (.int pv), .val (.int (1 : Int32)), .val (.int (Int32.ofNat bad)), .val (.int (Int32.ofNat dots)), .unset, .unset] [.int (own_fdI fd)])
      refine Goes.run X [(.istore 13, 2), (.iload 6, 2), (.iload 10, 2)] (L' := #[.val (.int p0), .val (.int p1), .val (.int p2), .val (.int p3), .val (.int p4), .val (.int p5), .val (.int (4 : Int32)), .val (.ref a485), .val (.ref a491), .val (.int pv), .val (.int (1 : Int32)), .val (.int (Int32.ofNat bad)), .val (.int (Int32.ofNat dots)), .val (.int (own_fdI fd)), .unset]) (S' := [.int (1 : Int32), .int (4 : Int32)]) (pc' := 288) rfl ?_
      refine Goes.if2 X (pc' := 327) (o := 39) (cd := .le) (fun q => absurd q (by decide)) (fun _ => ?_)
      refine Goes.runS X [(.iload 11, 2)] (S' := [.int (Int32.ofNat bad)]) (pc' := 293) rfl ?_
      refine Goes.if1 X (pc' := 327) (o := 34) (cd := .ne) (fun q576 => ?_) (fun q576 => ?_)
      · have h577 := own_sT (own_s0 _ lbad) q576
        refine Goes.run X [(.iconst 0, 1), (.istore 14, 2), (.iload 9, 2), (.iload 14, 2)] (L' := #[.val (.int p0), .val (.int p1), .val (.int p2), .val (.int p3), .val (.int p4), .val (.int p5), .val (.int (4 : Int32)), .val (.ref a485), .val (.ref a491), .val (.int pv), .val (.int (1 : Int32)), .val (.int (Int32.ofNat bad)), .val (.int (Int32.ofNat dots)), .val (.int (own_fdI fd)), .val (.int (0 : Int32))]) (S' := [.int (0 : Int32), .int pv]) (pc' := 334) rfl ?_
        have hp578 : pv = 0 := by rw [← hpv, ha, own_refA]; simp [hbad, hdots, hfd, h577]
        refine Goes.if2 X (pc' := 341) (o := 7) (cd := .ne) (fun q => absurd (q.symm.trans (by rw [hp578]; decide : if_icmp.holds .ne pv (0 : Int32) = false)) (by decide)) (fun _ => ?_)
        refine Goes.runS X [(.iconst 1, 1)] (S' := [.int (1 : Int32)]) (pc' := 338) rfl ?_
        refine Goes.goto X (o := 4) (pc' := 342) ?_
        refine Goes.retI X (by simp) rfl ?_
        exact rfl
      · have h579 := own_sF (own_s0 _ lbad) q576
        have h579 := Classical.not_not.mp h579
        refine Goes.runS X [(.iload 12, 2), (.iconst 1, 1)] (S' := [.int (1 : Int32), .int (Int32.ofNat dots)]) (pc' := 299) rfl ?_
        refine Goes.if2 X (pc' := 327) (o := 28) (cd := .gt) (fun q580 => ?_) (fun q580 => ?_)
        · have h581 := own_sT (own_s1 _ ldots) q580
          refine Goes.run X [(.iconst 0, 1), (.istore 14, 2), (.iload 9, 2), (.iload 14, 2)] (L' := #[.val (.int p0), .val (.int p1), .val (.int p2), .val (.int p3), .val (.int p4), .val (.int p5), .val (.int (4 : Int32)), .val (.ref a485), .val (.ref a491), .val (.int pv), .val (.int (1 : Int32)), .val (.int (Int32.ofNat bad)), .val (.int (Int32.ofNat dots)), .val (.int (own_fdI fd)), .val (.int (0 : Int32))]) (S' := [.int (0 : Int32), .int pv]) (pc' := 334) rfl ?_
          have hp582 : pv = 0 := by rw [← hpv, ha, own_refA]; simp [hbad, hdots, hfd, h579, h581]
          refine Goes.if2 X (pc' := 341) (o := 7) (cd := .ne) (fun q => absurd (q.symm.trans (by rw [hp582]; decide : if_icmp.holds .ne pv (0 : Int32) = false)) (by decide)) (fun _ => ?_)
          refine Goes.runS X [(.iconst 1, 1)] (S' := [.int (1 : Int32)]) (pc' := 338) rfl ?_
          refine Goes.goto X (o := 4) (pc' := 342) ?_
          refine Goes.retI X (by simp) rfl ?_
          exact rfl
        · have h583 := own_sF (own_s1 _ ldots) q580
          refine Goes.runS X [(.iload 12, 2)] (S' := [.int (Int32.ofNat dots)]) (pc' := 304) rfl ?_
          refine Goes.if1 X (pc' := 323) (o := 19) (cd := .eq) (fun q584 => ?_) (fun q584 => ?_)
          · have h585 := own_sT (own_s0' _ ldots) q584
            refine Goes.runS X [(.iconst 1, 1)] (S' := [.int (1 : Int32)]) (pc' := 324) rfl ?_
            refine Goes.goto X (o := 4) (pc' := 328) ?_
            refine Goes.run X [(.istore 14, 2), (.iload 9, 2), (.iload 14, 2)] (L' := #[.val (.int p0), .val (.int p1), .val (.int p2), .val (.int p3), .val (.int p4), .val (.int p5), .val (.int (4 : Int32)), .val (.ref a485), .val (.ref a491), .val (.int pv), .val (.int (1 : Int32)), .val (.int (Int32.ofNat bad)), .val (.int (Int32.ofNat dots)), .val (.int (own_fdI fd)), .val (.int (1 : Int32))]) (S' := [.int (1 : Int32), .int pv]) (pc' := 334) rfl ?_
            have hp586 : pv = 1 := by rw [← hpv, ha, own_refA]; simp [hbad, hdots, hfd, h579, h583, h585]
            refine Goes.if2 X (pc' := 341) (o := 7) (cd := .ne) (fun q => absurd (q.symm.trans (by rw [hp586]; decide : if_icmp.holds .ne pv (1 : Int32) = false)) (by decide)) (fun _ => ?_)
            refine Goes.runS X [(.iconst 1, 1)] (S' := [.int (1 : Int32)]) (pc' := 338) rfl ?_
            refine Goes.goto X (o := 4) (pc' := 342) ?_
            refine Goes.retI X (by simp) rfl ?_
            exact rfl
          · have h587 := own_sF (own_s0' _ ldots) q584
            refine Goes.runS X [(.iload 13, 2), (.iload 10, 2)] (S' := [.int (1 : Int32), .int (own_fdI fd)]) (pc' := 311) rfl ?_
            refine Goes.if2 X (pc' := 327) (o := 16) (cd := .eq) (fun q588 => ?_) (fun q588 => ?_)
            · have h589 := own_sT (own_s3 _ lfd 1 (by decide)) q588
              refine Goes.run X [(.iconst 0, 1), (.istore 14, 2), (.iload 9, 2), (.iload 14, 2)] (L' := #[.val (.int p0), .val (.int p1), .val (.int p2), .val (.int p3), .val (.int p4), .val (.int p5), .val (.int (4 : Int32)), .val (.ref a485), .val (.ref a491), .val (.int pv), .val (.int (1 : Int32)), .val (.int (Int32.ofNat bad)), .val (.int (Int32.ofNat dots)), .val (.int (own_fdI fd)), .val (.int (0 : Int32))]) (S' := [.int (0 : Int32), .int pv]) (pc' := 334) rfl ?_
              have hp590 : pv = 0 := by rw [← hpv, ha, own_refA]; simp [hbad, hdots, hfd, h579, h583, h587, h589]
              refine Goes.if2 X (pc' := 341) (o := 7) (cd := .ne) (fun q => absurd (q.symm.trans (by rw [hp590]; decide : if_icmp.holds .ne pv (0 : Int32) = false)) (by decide)) (fun _ => ?_)
              refine Goes.runS X [(.iconst 1, 1)] (S' := [.int (1 : Int32)]) (pc' := 338) rfl ?_
              refine Goes.goto X (o := 4) (pc' := 342) ?_
              refine Goes.retI X (by simp) rfl ?_
              exact rfl
            · have h591 := own_sF (own_s3 _ lfd 1 (by decide)) q588
              refine Goes.runS X [(.iload 13, 2), (.iload 6, 2), (.iconst 1, 1), (.isub, 1)] (S' := [.int (3 : Int32), .int (own_fdI fd)]) (pc' := 320) rfl ?_
              refine Goes.if2 X (pc' := 327) (o := 7) (cd := .eq) (fun q592 => ?_) (fun q592 => ?_)
              · have h593 := own_sT (own_s3 _ lfd 3 (by decide)) q592
                refine Goes.run X [(.iconst 0, 1), (.istore 14, 2), (.iload 9, 2), (.iload 14, 2)] (L' := #[.val (.int p0), .val (.int p1), .val (.int p2), .val (.int p3), .val (.int p4), .val (.int p5), .val (.int (4 : Int32)), .val (.ref a485), .val (.ref a491), .val (.int pv), .val (.int (1 : Int32)), .val (.int (Int32.ofNat bad)), .val (.int (Int32.ofNat dots)), .val (.int (own_fdI fd)), .val (.int (0 : Int32))]) (S' := [.int (0 : Int32), .int pv]) (pc' := 334) rfl ?_
                have hp594 : pv = 0 := by rw [← hpv, ha, own_refA]; simp [hbad, hdots, hfd, h579, h583, h587, h591, h593]
                refine Goes.if2 X (pc' := 341) (o := 7) (cd := .ne) (fun q => absurd (q.symm.trans (by rw [hp594]; decide : if_icmp.holds .ne pv (0 : Int32) = false)) (by decide)) (fun _ => ?_)
                refine Goes.runS X [(.iconst 1, 1)] (S' := [.int (1 : Int32)]) (pc' := 338) rfl ?_
                refine Goes.goto X (o := 4) (pc' := 342) ?_
                refine Goes.retI X (by simp) rfl ?_
                exact rfl
              · have h595 := own_sF (own_s3 _ lfd 3 (by decide)) q592
                refine Goes.runS X [(.iconst 1, 1)] (S' := [.int (1 : Int32)]) (pc' := 324) rfl ?_
                refine Goes.goto X (o := 4) (pc' := 328) ?_
                refine Goes.run X [(.istore 14, 2), (.iload 9, 2), (.iload 14, 2)] (L' := #[.val (.int p0), .val (.int p1), .val (.int p2), .val (.int p3), .val (.int p4), .val (.int p5), .val (.int (4 : Int32)), .val (.ref a485), .val (.ref a491), .val (.int pv), .val (.int (1 : Int32)), .val (.int (Int32.ofNat bad)), .val (.int (Int32.ofNat dots)), .val (.int (own_fdI fd)), .val (.int (1 : Int32))]) (S' := [.int (1 : Int32), .int pv]) (pc' := 334) rfl ?_
                have hp596 : pv = 1 := by rw [← hpv, ha, own_refA]; simp [hbad, hdots, hfd, h579, h583, h587, h591, h595]
                refine Goes.if2 X (pc' := 341) (o := 7) (cd := .ne) (fun q => absurd (q.symm.trans (by rw [hp596]; decide : if_icmp.holds .ne pv (1 : Int32) = false)) (by decide)) (fun _ => ?_)
                refine Goes.runS X [(.iconst 1, 1)] (S' := [.int (1 : Int32)]) (pc' := 338) rfl ?_
                refine Goes.goto X (o := 4) (pc' := 342) ?_
                refine Goes.retI X (by simp) rfl ?_
                exact rfl
  · refine Goes.runS X [(.iload_n 0, 1)] (S' := [.int p0]) (pc' := 1) rfl ?_
    refine Goes.ldcI X (wd hw 0 rfl) ?_
    refine Goes.run X [(.iand, 1), (.bipush 6, 2), (.irem, 1), (.istore 6, 2)] (L' := #[.val (.int p0), .val (.int p1), .val (.int p2), .val (.int p3), .val (.int p4), .val (.int p5), .val (.int ((p0 &&& (2147483647 : Int32)) % (6 : Int32))), .unset, .unset, .unset, .unset, .unset, .unset, .unset, .unset]) (S' := []) (pc' := 9) rfl ?_
    rw [e5]
    show Goes _ _ _ _ _ _ _ _ _ _ _ _ _ _ _ _ _ _ _ _ [] 0 0 (mkF m 9 #[.val (.int p0), .val (.int p1), .val (.int p2), .val (.int p3), .val (.int p4), .val (.int p5), .val (.int (5 : Int32)), .unset, .unset, .unset, .unset, .unset, .unset, .unset, .unset] [])
    refine Goes.runS X [(.iconst 5, 1)] (S' := [.int (5 : Int32)]) (pc' := 10) rfl ?_
    refine Goes.newarr X (aty := .char) "[C" 5 5 (wd hw 1 rfl) (by decide +kernel) (by decide) (by decide) (fun a597 => ?_)
    refine Goes.run X [(.astore 7, 2), (.aload 7, 2), (.iconst 0, 1), (.iload_n 1, 1)] (L' := #[.val (.int p0), .val (.int p1), .val (.int p2), .val (.int p3), .val (.int p4), .val (.int p5), .val (.int (5 : Int32)), .val (.ref a597), .unset, .unset, .unset, .unset, .unset, .unset, .unset]) (S' := [.int p1, .int (0 : Int32), .ref a597]) (pc' := 18) rfl ?_
    refine Goes.callSW X 2 [] [0] (D_pick l Z a0 h0 hw cs hCS hcs sio hSIO hsio p1) (wd hw 2 rfl) (wd hw 3 rfl) (wd hw 4 rfl) (wd hw 5 rfl) pd_y_0 rfl (st := [.int (0 : Int32), .ref a597]) rfl rfl (G := [(a597, ar "[C" .char [.int 0, .int 0, .int 0, .int 0, .int 0])]) rfl rfl ?_
    rintro _ _ vm0 k0 ⟨c598, rfl, h0c598, h1c598, rfl⟩ X
    refine ⟨Or.inr (Or.inr fun _ q => Or.inr (Or.inr q)), ?_⟩
    refine Goes.castore X 0 0 rfl (by decide) (by decide) (Nat.le_of_ble_eq_true rfl) ?_
    rw [own_nca h0c598 h1c598]
    refine Goes.runS X [(.aload 7, 2), (.iconst 1, 1), (.iload_n 2, 1)] (S' := [.int p2, .int (1 : Int32), .ref a597]) (pc' := 26) rfl ?_
    refine Goes.callSW X 2 [] [0] (D_pick l Z a0 h0 hw cs hCS hcs sio hSIO hsio p2) (wd hw 2 rfl) (wd hw 3 rfl) (wd hw 4 rfl) (wd hw 5 rfl) pd_y_0 rfl (st := [.int (1 : Int32), .ref a597]) rfl rfl (G := [(a597, ar "[C" .char [.int c598, .int 0, .int 0, .int 0, .int 0])]) rfl rfl ?_
    rintro _ _ vm0 k0 ⟨c599, rfl, h0c599, h1c599, rfl⟩ X
    refine ⟨Or.inr (Or.inr fun _ q => Or.inr (Or.inr q)), ?_⟩
    refine Goes.castore X 0 1 rfl (by decide) (by decide) (Nat.le_of_ble_eq_true rfl) ?_
    rw [own_nca h0c599 h1c599]
    refine Goes.runS X [(.aload 7, 2), (.iconst 2, 1), (.iload_n 3, 1)] (S' := [.int p3, .int (2 : Int32), .ref a597]) (pc' := 34) rfl ?_
    refine Goes.callSW X 2 [] [0] (D_pick l Z a0 h0 hw cs hCS hcs sio hSIO hsio p3) (wd hw 2 rfl) (wd hw 3 rfl) (wd hw 4 rfl) (wd hw 5 rfl) pd_y_0 rfl (st := [.int (2 : Int32), .ref a597]) rfl rfl (G := [(a597, ar "[C" .char [.int c598, .int c599, .int 0, .int 0, .int 0])]) rfl rfl ?_
    rintro _ _ vm0 k0 ⟨c600, rfl, h0c600, h1c600, rfl⟩ X
    refine ⟨Or.inr (Or.inr fun _ q => Or.inr (Or.inr q)), ?_⟩
    refine Goes.castore X 0 2 rfl (by decide) (by decide) (Nat.le_of_ble_eq_true rfl) ?_
    rw [own_nca h0c600 h1c600]
    refine Goes.runS X [(.aload 7, 2), (.iconst 3, 1), (.iload 4, 2)] (S' := [.int p4, .int (3 : Int32), .ref a597]) (pc' := 43) rfl ?_
    refine Goes.callSW X 2 [] [0] (D_pick l Z a0 h0 hw cs hCS hcs sio hSIO hsio p4) (wd hw 2 rfl) (wd hw 3 rfl) (wd hw 4 rfl) (wd hw 5 rfl) pd_y_0 rfl (st := [.int (3 : Int32), .ref a597]) rfl rfl (G := [(a597, ar "[C" .char [.int c598, .int c599, .int c600, .int 0, .int 0])]) rfl rfl ?_
    rintro _ _ vm0 k0 ⟨c601, rfl, h0c601, h1c601, rfl⟩ X
    refine ⟨Or.inr (Or.inr fun _ q => Or.inr (Or.inr q)), ?_⟩
    refine Goes.castore X 0 3 rfl (by decide) (by decide) (Nat.le_of_ble_eq_true rfl) ?_
    rw [own_nca h0c601 h1c601]
    refine Goes.runS X [(.aload 7, 2), (.iconst 4, 1), (.iload 5, 2)] (S' := [.int p5, .int (4 : Int32), .ref a597]) (pc' := 52) rfl ?_
    refine Goes.callSW X 2 [] [0] (D_pick l Z a0 h0 hw cs hCS hcs sio hSIO hsio p5) (wd hw 2 rfl) (wd hw 3 rfl) (wd hw 4 rfl) (wd hw 5 rfl) pd_y_0 rfl (st := [.int (4 : Int32), .ref a597]) rfl rfl (G := [(a597, ar "[C" .char [.int c598, .int c599, .int c600, .int c601, .int 0])]) rfl rfl ?_
    rintro _ _ vm0 k0 ⟨c602, rfl, h0c602, h1c602, rfl⟩ X
    refine ⟨Or.inr (Or.inr fun _ q => Or.inr (Or.inr q)), ?_⟩
    refine Goes.castore X 0 4 rfl (by decide) (by decide) (Nat.le_of_ble_eq_true rfl) ?_
    rw [own_nca h0c602 h1c602]
    refine Goes.new X _ (wd hw 6 rfl) (wd hw 7 rfl) (wd hw 8 rfl) (new_Dig hw) (fun a603 => ?_)
    refine Goes.runS X [(.dup, 1), (.iconst 0, 1)] (S' := [.int (0 : Int32), .ref a603, .ref a603]) (pc' := 61) rfl ?_
    refine Goes.callN X 1 [1] [0] (D_dctor l Z a0 h0 hw cs hCS hcs a603) rfl (wd hw 9 rfl) (wd hw 10 rfl) (wd hw 8 rfl) (wd hw 11 rfl) pd_y_1 rfl (st := [.ref a603]) rfl rfl (G := [(a597, ar "[C" .char [.int c598, .int c599, .int c600, .int c601, .int c602])]) rfl rfl ?_
    rintro _ _ ⟨u604, b605, h606, b607, rfl, rfl⟩
    refine ⟨Or.inl rfl, ?_⟩
    refine Goes.run X [(.astore 8, 2), (.iload 6, 2)] (L' := #[.val (.int p0), .val (.int p1), .val (.int p2), .val (.int p3), .val (.int p4), .val (.int p5), .val (.int (5 : Int32)), .val (.ref a597), .val (.ref a603), .unset, .unset, .unset, .unset, .unset, .unset]) (S' := [.int (5 : Int32)]) (pc' := 68) rfl ?_
    refine Goes.if1 X (pc' := 81) (o := 13) (cd := .le) (fun q => absurd q (by decide)) (fun _ => ?_)
    refine Goes.runS X [(.aload 8, 2), (.aload 7, 2), (.iconst 0, 1)] (S' := [.int (0 : Int32), .ref a597, .ref a603]) (pc' := 76) rfl ?_
    refine Goes.caload X 4 0 rfl (by decide) (by decide) rfl ?_
    refine Goes.callV X 0 0 [0, 1, 2, 3] [4] rfl (D_add l Z a0 h0 hw cs hCS hcs a603 u604 h606 b605 (.ref b607) 0 0 (Or.inl rfl : own_ok 0) 0 0 0 0 0 0 (by omega) (List.replicate 16 (.int 0)) (by decide) c598 (own_le h1c598)) (wd hw 66 rfl) (wd hw 67 rfl) (wd hw 69 rfl) (wd hw 68 rfl) (own_nf X (wd hw 69 rfl)) (wd hw 8 rfl) (wd hw 70 rfl) pd_y_9 rfl (st := []) rfl rfl (G := [(a597, ar "[C" .char [.int c598, .int c599, .int c600, .int c601, .int c602])]) rfl rfl ?_
    rintro _ _ ⟨r608, sg609, pl610, ne611, ed612, ex613, k614, bs615, rfl, hk616, hbs617, rfl⟩
    refine ⟨Or.inl rfl, ?_⟩
    obtain ⟨s618, hs619⟩ : ∃ z, (own_st 0 c598) = z := ⟨_, rfl⟩
    obtain ⟨e620, he621⟩ : ∃ z, (own_en 0 0 c598) = z := ⟨_, rfl⟩
    rw [hs619, he621]
    refine Goes.runS X [(.pop, 1), (.iload 6, 2), (.iconst 1, 1)] (S' := [.int (1 : Int32), .int (5 : Int32)]) (pc' := 84) rfl ?_
    refine Goes.if2 X (pc' := 97) (o := 13) (cd := .le) (fun q => absurd q (by decide)) (fun _ => ?_)
    refine Goes.runS X [(.aload 8, 2), (.aload 7, 2), (.iconst 1, 1)] (S' := [.int (1 : Int32), .ref a597, .ref a603]) (pc' := 92) rfl ?_
    refine Goes.caload X 4 1 rfl (by decide) (by decide) rfl ?_
    refine Goes.callV X 0 0 [0, 1, 2, 3] [4] rfl (D_add l Z a0 h0 hw cs hCS hcs a603 u604 h606 b605 (.ref b607) s618 e620 (hs619 ▸ own_st_ok c598 (Or.inl rfl : own_ok 0)) sg609 pl610 ne611 ed612 ex613 k614 (by omega) bs615 hbs617 c599 (own_le h1c599)) (wd hw 66 rfl) (wd hw 67 rfl) (wd hw 69 rfl) (wd hw 68 rfl) (own_nf X (wd hw 69 rfl)) (wd hw 8 rfl) (wd hw 70 rfl) pd_y_9 rfl (st := []) rfl rfl (G := [(a597, ar "[C" .char [.int c598, .int c599, .int c600, .int c601, .int c602])]) rfl rfl ?_
    rintro _ _ ⟨r622, sg623, pl624, ne625, ed626, ex627, k628, bs629, rfl, hk630, hbs631, rfl⟩
    refine ⟨Or.inl rfl, ?_⟩
    obtain ⟨s632, hs633⟩ : ∃ z, (own_st s618 c599) = z := ⟨_, rfl⟩
    obtain ⟨e634, he635⟩ : ∃ z, (own_en e620 s618 c599) = z := ⟨_, rfl⟩
    rw [hs633, he635]
    refine Goes.runS X [(.pop, 1), (.iload 6, 2), (.iconst 2, 1)] (S' := [.int (2 : Int32), .int (5 : Int32)]) (pc' := 100) rfl ?_
    refine Goes.if2 X (pc' := 113) (o := 13) (cd := .le) (fun q => absurd q (by decide)) (fun _ => ?_)
    refine Goes.runS X [(.aload 8, 2), (.aload 7, 2), (.iconst 2, 1)] (S' := [.int (2 : Int32), .ref a597, .ref a603]) (pc' := 108) rfl ?_
    refine Goes.caload X 4 2 rfl (by decide) (by decide) rfl ?_
    refine Goes.callV X 0 0 [0, 1, 2, 3] [4] rfl (D_add l Z a0 h0 hw cs hCS hcs a603 u604 h606 b605 (.ref b607) s632 e634 (hs633 ▸ own_st_ok c599 (hs619 ▸ own_st_ok c598 (Or.inl rfl : own_ok 0))) sg623 pl624 ne625 ed626 ex627 k628 (by omega) bs629 hbs631 c600 (own_le h1c600)) (wd hw 66 rfl) (wd hw 67 rfl) (wd hw 69 rfl) (wd hw 68 rfl) (own_nf X (wd hw 69 rfl)) (wd hw 8 rfl) (wd hw 70 rfl) pd_y_9 rfl (st := []) rfl rfl (G := [(a597, ar "[C" .char [.int c598, .int c599, .int c600, .int c601, .int c602])]) rfl rfl ?_
    rintro _ _ ⟨r636, sg637, pl638, ne639, ed640, ex641, k642, bs643, rfl, hk644, hbs645, rfl⟩
    refine ⟨Or.inl rfl, ?_⟩
    obtain ⟨s646, hs647⟩ : ∃ z, (own_st s632 c600) = z := ⟨_, rfl⟩
    obtain ⟨e648, he649⟩ : ∃ z, (own_en e634 s632 c600) = z := ⟨_, rfl⟩
    rw [hs647, he649]
    refine Goes.runS X [(.pop, 1), (.iload 6, 2), (.iconst 3, 1)] (S' := [.int (3 : Int32), .int (5 : Int32)]) (pc' := 116) rfl ?_
    refine Goes.if2 X (pc' := 129) (o := 13) (cd := .le) (fun q => absurd q (by decide)) (fun _ => ?_)
    refine Goes.runS X [(.aload 8, 2), (.aload 7, 2), (.iconst 3, 1)] (S' := [.int (3 : Int32), .ref a597, .ref a603]) (pc' := 124) rfl ?_
    refine Goes.caload X 4 3 rfl (by decide) (by decide) rfl ?_
    refine Goes.callV X 0 0 [0, 1, 2, 3] [4] rfl (D_add l Z a0 h0 hw cs hCS hcs a603 u604 h606 b605 (.ref b607) s646 e648 (hs647 ▸ own_st_ok c600 (hs633 ▸ own_st_ok c599 (hs619 ▸ own_st_ok c598 (Or.inl rfl : own_ok 0)))) sg637 pl638 ne639 ed640 ex641 k642 (by omega) bs643 hbs645 c601 (own_le h1c601)) (wd hw 66 rfl) (wd hw 67 rfl) (wd hw 69 rfl) (wd hw 68 rfl) (own_nf X (wd hw 69 rfl)) (wd hw 8 rfl) (wd hw 70 rfl) pd_y_9 rfl (st := []) rfl rfl (G := [(a597, ar "[C" .char [.int c598, .int c599, .int c600, .int c601, .int c602])]) rfl rfl ?_
    rintro _ _ ⟨r650, sg651, pl652, ne653, ed654, ex655, k656, bs657, rfl, hk658, hbs659, rfl⟩
    refine ⟨Or.inl rfl, ?_⟩
    obtain ⟨s660, hs661⟩ : ∃ z, (own_st s646 c601) = z := ⟨_, rfl⟩
    obtain ⟨e662, he663⟩ : ∃ z, (own_en e648 s646 c601) = z := ⟨_, rfl⟩
    rw [hs661, he663]
    refine Goes.runS X [(.pop, 1), (.iload 6, 2), (.iconst 4, 1)] (S' := [.int (4 : Int32), .int (5 : Int32)]) (pc' := 132) rfl ?_
    refine Goes.if2 X (pc' := 145) (o := 13) (cd := .le) (fun q => absurd q (by decide)) (fun _ => ?_)
    refine Goes.runS X [(.aload 8, 2), (.aload 7, 2), (.iconst 4, 1)] (S' := [.int (4 : Int32), .ref a597, .ref a603]) (pc' := 140) rfl ?_
    refine Goes.caload X 4 4 rfl (by decide) (by decide) rfl ?_
    refine Goes.callV X 0 0 [0, 1, 2, 3] [4] rfl (D_add l Z a0 h0 hw cs hCS hcs a603 u604 h606 b605 (.ref b607) s660 e662 (hs661 ▸ own_st_ok c601 (hs647 ▸ own_st_ok c600 (hs633 ▸ own_st_ok c599 (hs619 ▸ own_st_ok c598 (Or.inl rfl : own_ok 0))))) sg651 pl652 ne653 ed654 ex655 k656 (by omega) bs657 hbs659 c602 (own_le h1c602)) (wd hw 66 rfl) (wd hw 67 rfl) (wd hw 69 rfl) (wd hw 68 rfl) (own_nf X (wd hw 69 rfl)) (wd hw 8 rfl) (wd hw 70 rfl) pd_y_9 rfl (st := []) rfl rfl (G := [(a597, ar "[C" .char [.int c598, .int c599, .int c600, .int c601, .int c602])]) rfl rfl ?_
    rintro _ _ ⟨r664, sg665, pl666, ne667, ed668, ex669, k670, bs671, rfl, hk672, hbs673, rfl⟩
    refine ⟨Or.inl rfl, ?_⟩
    obtain ⟨s674, hs675⟩ : ∃ z, (own_st s660 c602) = z := ⟨_, rfl⟩
    obtain ⟨e676, he677⟩ : ∃ z, (own_en e662 s660 c602) = z := ⟨_, rfl⟩
    rw [hs675, he677]
    refine Goes.runS X [(.pop, 1), (.aload 8, 2)] (S' := [.ref a603]) (pc' := 147) rfl ?_
    refine Goes.callV X 0 0 [0] [1, 2, 3, 4] rfl (D_pl l Z a0 h0 hw a603 s674 e676 (.long sg665) (.long pl666) (.int ne667) (.int ed668) (.long ex669) (.ref u604) (.ref h606) (.int 0) (.int 0)) (wd hw 45 rfl) (wd hw 46 rfl) (wd hw 48 rfl) (wd hw 47 rfl) (own_nf X (wd hw 48 rfl)) (wd hw 8 rfl) (wd hw 49 rfl) pd_y_4 rfl (st := []) rfl rfl (G := [(u604, o_SB (.ref b605) (.int 0) (.int (Int32.ofNat k670))), (b605, oBs bs671), (h606, o_SB (.ref b607) (.int 0) (.int 0)), (a597, ar "[C" .char [.int c598, .int c599, .int c600, .int c601, .int c602])]) rfl rfl ?_
    rintro _ _ ⟨rfl, rfl⟩
    refine ⟨Or.inr (Or.inr fun _ q => Or.inr (Or.inr q)), ?_⟩
    obtain ⟨pv, hpv⟩ : ∃ z, own_pl s674 e676 = z := ⟨_, rfl⟩
    rw [hpv]
    subst he677
    subst hs675
    subst he663
    subst hs661
    subst he649
    subst hs647
    subst he635
    subst hs633
    subst he621
    subst hs619
    rw [own_law5 c598 c599 c600 c601 c602 0] at hpv
    refine Goes.sub [4] (G := [(a597, ar "[C" .char [.int c598, .int c599, .int c600, .int c601, .int c602])]) rfl ?_
    refine Goes.run X [(.istore 9, 2), (.iload 6, 2)] (L' := #[.val (.int p0), .val (.int p1), .val (.int p2), .val (.int p3), .val (.int p4), .val (.int p5), .val (.int (5 : Int32)), .val (.ref a597), .val (.ref a603), .val (.int pv), .unset, .unset, .unset, .unset, .unset]) (S' := [.int (5 : Int32)]) (pc' := 154) rfl ?_
    refine Goes.if1 X (pc' := 170) (o := 16) (cd := .le) (fun q => absurd q (by decide)) (fun _ => ?_)
    refine Goes.runS X [(.aload 7, 2), (.iconst 0, 1)] (S' := [.int (0 : Int32), .ref a597]) (pc' := 160) rfl ?_
    refine Goes.caload X 0 0 rfl (by decide) (by decide) rfl ?_
    refine Goes.runS X [(.bipush 45, 2)] (S' := [.int (45 : Int32), .int c598]) (pc' := 163) rfl ?_
    refine Goes.if2 X (pc' := 170) (o := 7) (cd := .ne) (fun q678 => ?_) (fun q678 => ?_)
    · have h679 : ¬ c598 = 45 := by simpa [if_icmp.holds] using q678
      have ha : own_refN 5 [(own_cl c598), (own_cl c599), (own_cl c600), (own_cl c601), (own_cl c602)] = own_refA 5 0 [(own_cl c598), (own_cl c599), (own_cl c600), (own_cl c601), (own_cl c602)] := congrArg (fun z => own_refA 5 z [(own_cl c598), (own_cl c599), (own_cl c600), (own_cl c601), (own_cl c602)]) (if_neg fun z => h679 ((own_cl0 _).mp z.2))
      refine Goes.runS X [(.iconst 0, 1)] (S' := [.int (0 : Int32)]) (pc' := 171) rfl ?_
      refine Goes.run X [(.istore 10, 2), (.aload 7, 2), (.iconst 0, 1), (.iload 6, 2), (.iload 10, 2)] (L' := #[.val (.int p0), .val (.int p1), .val (.int p2), .val (.int p3), .val (.int p4), .val (.int p5), .val (.int (5 : Int32)), .val (.ref a597), .val (.ref a603), .val (.int pv), .val (.int (0 : Int32)), .unset, .unset, .unset, .unset]) (S' := [.int (0 : Int32), .int (5 : Int32), .int (0 : Int32), .ref a597]) (pc' := 180) rfl ?_
      refine Goes.callS X 0 [0] [] (D_bad l Z a0 h0 hw a597 _ 5 0 0 (by decide) (by decide) (by decide) c598 rfl) (wd hw 57 rfl) (wd hw 58 rfl) (wd hw 4 rfl) (wd hw 59 rfl) pd_y_6 rfl (st := []) rfl rfl (G := []) rfl rfl ?_
      rintro _ _ ⟨rfl, rfl⟩
      refine ⟨Or.inr (Or.inr fun _ q => Or.inr (Or.inr q)), ?_⟩
      refine Goes.runS X [(.aload 7, 2), (.iconst 1, 1), (.iload 6, 2), (.iload 10, 2)] (S' := [.int (0 : Int32), .int (5 : Int32), .int (1 : Int32), .ref a597, .int (Int32.ofNat (own_badN 5 0 0 (own_cl c598)))]) (pc' := 190) rfl ?_
      refine Goes.callS X 1 [0] [] (D_bad l Z a0 h0 hw a597 _ 5 0 1 (by decide) (by decide) (by decide) c599 rfl) (wd hw 57 rfl) (wd hw 58 rfl) (wd hw 4 rfl) (wd hw 59 rfl) pd_y_6 rfl (st := [.int (Int32.ofNat (own_badN 5 0 0 (own_cl c598)))]) rfl rfl (G := []) rfl rfl ?_
      rintro _ _ ⟨rfl, rfl⟩
      refine ⟨Or.inr (Or.inr fun _ q => Or.inr (Or.inr q)), ?_⟩
      refine Goes.runS X [(.iadd, 1), (.aload 7, 2), (.iconst 2, 1), (.iload 6, 2), (.iload 10, 2)] (S' := [.int (0 : Int32), .int (5 : Int32), .int (2 : Int32), .ref a597, .int ((Int32.ofNat (own_badN 5 0 0 (own_cl c598))) + (Int32.ofNat (own_badN 5 0 1 (own_cl c599))))]) (pc' := 201) rfl ?_
      refine Goes.callS X 1 [0] [] (D_bad l Z a0 h0 hw a597 _ 5 0 2 (by decide) (by decide) (by decide) c600 rfl) (wd hw 57 rfl) (wd hw 58 rfl) (wd hw 4 rfl) (wd hw 59 rfl) pd_y_6 rfl (st := [.int ((Int32.ofNat (own_badN 5 0 0 (own_cl c598))) + (Int32.ofNat (own_badN 5 0 1 (own_cl c599))))]) rfl rfl (G := []) rfl rfl ?_
      rintro _ _ ⟨rfl, rfl⟩
      refine ⟨Or.inr (Or.inr fun _ q => Or.inr (Or.inr q)), ?_⟩
      refine Goes.runS X [(.iadd, 1), (.aload 7, 2), (.iconst 3, 1), (.iload 6, 2), (.iload 10, 2)] (S' := [.int (0 : Int32), .int (5 : Int32), .int (3 : Int32), .ref a597, .int (((Int32.ofNat (own_badN 5 0 0 (own_cl c598))) + (Int32.ofNat (own_badN 5 0 1 (own_cl c599)))) + (Int32.ofNat (own_badN 5 0 2 (own_cl c600))))]) (pc' := 212) rfl ?_
      refine Goes.callS X 1 [0] [] (D_bad l Z a0 h0 hw a597 _ 5 0 3 (by decide) (by decide) (by decide) c601 rfl) (wd hw 57 rfl) (wd hw 58 rfl) (wd hw 4 rfl) (wd hw 59 rfl) pd_y_6 rfl (st := [.int (((Int32.ofNat (own_badN 5 0 0 (own_cl c598))) + (Int32.ofNat (own_badN 5 0 1 (own_cl c599)))) + (Int32.ofNat (own_badN 5 0 2 (own_cl c600))))]) rfl rfl (G := []) rfl rfl ?_
      rintro _ _ ⟨rfl, rfl⟩
      refine ⟨Or.inr (Or.inr fun _ q => Or.inr (Or.inr q)), ?_⟩
      refine Goes.runS X [(.iadd, 1), (.aload 7, 2), (.iconst 4, 1), (.iload 6, 2), (.iload 10, 2)] (S' := [.int (0 : Int32), .int (5 : Int32), .int (4 : Int32), .ref a597, .int ((((Int32.ofNat (own_badN 5 0 0 (own_cl c598))) + (Int32.ofNat (own_badN 5 0 1 (own_cl c599)))) + (Int32.ofNat (own_badN 5 0 2 (own_cl c600)))) + (Int32.ofNat (own_badN 5 0 3 (own_cl c601))))]) (pc' := 223) rfl ?_
      refine Goes.callS X 1 [0] [] (D_bad l Z a0 h0 hw a597 _ 5 0 4 (by decide) (by decide) (by decide) c602 rfl) (wd hw 57 rfl) (wd hw 58 rfl) (wd hw 4 rfl) (wd hw 59 rfl) pd_y_6 rfl (st := [.int ((((Int32.ofNat (own_badN 5 0 0 (own_cl c598))) + (Int32.ofNat (own_badN 5 0 1 (own_cl c599)))) + (Int32.ofNat (own_badN 5 0 2 (own_cl c600)))) + (Int32.ofNat (own_badN 5 0 3 (own_cl c601))))]) rfl rfl (G := []) rfl rfl ?_
      rintro _ _ ⟨rfl, rfl⟩
      refine ⟨Or.inr (Or.inr fun _ q => Or.inr (Or.inr q)), ?_⟩
      refine Goes.runS X [(.iadd, 1)] (S' := [.int (((((Int32.ofNat (own_badN 5 0 0 (own_cl c598))) + (Int32.ofNat (own_badN 5 0 1 (own_cl c599)))) + (Int32.ofNat (own_badN 5 0 2 (own_cl c600)))) + (Int32.ofNat (own_badN 5 0 3 (own_cl c601)))) + (Int32.ofNat (own_badN 5 0 4 (own_cl c602))))]) (pc' := 227) rfl ?_
      obtain ⟨bad, hbad⟩ : ∃ x, own_badL 5 0 [(own_cl c598), (own_cl c599), (own_cl c600), (own_cl c601), (own_cl c602)] = x := ⟨_, rfl⟩
      have lbad : bad ≤ 9 := hbad ▸ own_badL_le _ _ _
      rw [show (((((Int32.ofNat (own_badN 5 0 0 (own_cl c598))) + (Int32.ofNat (own_badN 5 0 1 (own_cl c599)))) + (Int32.ofNat (own_badN 5 0 2 (own_cl c600)))) + (Int32.ofNat (own_badN 5 0 3 (own_cl c601)))) + (Int32.ofNat (own_badN 5 0 4 (own_cl c602)))) = Int32.ofNat bad from by rw [← hbad]; simp only [← Int32.ofNat_add]; rfl]
      show Goes _ _ _ _ _ _ _ _ _ _ _ _ _ _ _ _ _ _ _ _ [(a597, ar "[C" .char [.int c598, .int c599, .int c600, .int c601, .int c602])] 16 399 (mkF m 227 #[.val (.int p0), .val (.int p1), .val (.int p2), .val (.int p3), .val (.int p4), .val (.int p5), .val (.int (5 : Int32)), .val (.ref a597), .val (.ref a603), .val (.int pv), .val (.int (0 : Int32)), .unset, .unset, .unset, .unset] [.int (Int32.ofNat bad)])
      refine Goes.run X [(.istore 11, 2), (.aload 7, 2), (.iconst 0, 1), (.iload 6, 2)] (L' := #[.val (.int p0), .val (.int p1), .val (.int p2), .val (.int p3), .val (.int p4), .val (.int p5), .val (.int (5 : Int32)), .val (.ref a597), .val (.ref a603), .val (.int pv), .val (.int (0 : Int32)), .val (.int (Int32.ofNat bad)), .unset, .unset, .unset]) (S' := [.int (5 : Int32), .int (0 : Int32), .ref a597]) (pc' := 234) rfl ?_
      refine Goes.callS X 0 [0] [] (D_dot l Z a0 h0 hw a597 _ 5 0 (by omega) (by decide) c598 rfl) (wd hw 60 rfl) (wd hw 61 rfl) (wd hw 4 rfl) (wd hw 62 rfl) pd_y_7 rfl (st := []) rfl rfl (G := []) rfl rfl ?_
      rintro _ _ ⟨rfl, rfl⟩
      refine ⟨Or.inr (Or.inr fun _ q => Or.inr (Or.inr q)), ?_⟩
      refine Goes.runS X [(.aload 7, 2), (.iconst 1, 1), (.iload 6, 2)] (S' := [.int (5 : Int32), .int (1 : Int32), .ref a597, .int (Int32.ofNat (own_dotN 5 0 (own_cl c598)))]) (pc' := 242) rfl ?_
      refine Goes.callS X 1 [0] [] (D_dot l Z a0 h0 hw a597 _ 5 1 (by omega) (by decide) c599 rfl) (wd hw 60 rfl) (wd hw 61 rfl) (wd hw 4 rfl) (wd hw 62 rfl) pd_y_7 rfl (st := [.int (Int32.ofNat (own_dotN 5 0 (own_cl c598)))]) rfl rfl (G := []) rfl rfl ?_
      rintro _ _ ⟨rfl, rfl⟩
      refine ⟨Or.inr (Or.inr fun _ q => Or.inr (Or.inr q)), ?_⟩
      refine Goes.runS X [(.iadd, 1), (.aload 7, 2), (.iconst 2, 1), (.iload 6, 2)] (S' := [.int (5 : Int32), .int (2 : Int32), .ref a597, .int ((Int32.ofNat (own_dotN 5 0 (own_cl c598))) + (Int32.ofNat (own_dotN 5 1 (own_cl c599))))]) (pc' := 251) rfl ?_
      refine Goes.callS X 1 [0] [] (D_dot l Z a0 h0 hw a597 _ 5 2 (by omega) (by decide) c600 rfl) (wd hw 60 rfl) (wd hw 61 rfl) (wd hw 4 rfl) (wd hw 62 rfl) pd_y_7 rfl (st := [.int ((Int32.ofNat (own_dotN 5 0 (own_cl c598))) + (Int32.ofNat (own_dotN 5 1 (own_cl c599))))]) rfl rfl (G := []) rfl rfl ?_
      rintro _ _ ⟨rfl, rfl⟩
      refine ⟨Or.inr (Or.inr fun _ q => Or.inr (Or.inr q)), ?_⟩
      refine Goes.runS X [(.iadd, 1), (.aload 7, 2), (.iconst 3, 1), (.iload 6, 2)] (S' := [.int (5 : Int32), .int (3 : Int32), .ref a597, .int (((Int32.ofNat (own_dotN 5 0 (own_cl c598))) + (Int32.ofNat (own_dotN 5 1 (own_cl c599)))) + (Int32.ofNat (own_dotN 5 2 (own_cl c600))))]) (pc' := 260) rfl ?_
      refine Goes.callS X 1 [0] [] (D_dot l Z a0 h0 hw a597 _ 5 3 (by omega) (by decide) c601 rfl) (wd hw 60 rfl) (wd hw 61 rfl) (wd hw 4 rfl) (wd hw 62 rfl) pd_y_7 rfl (st := [.int (((Int32.ofNat (own_dotN 5 0 (own_cl c598))) + (Int32.ofNat (own_dotN 5 1 (own_cl c599)))) + (Int32.ofNat (own_dotN 5 2 (own_cl c600))))]) rfl rfl (G := []) rfl rfl ?_
      rintro _ _ ⟨rfl, rfl⟩
      refine ⟨Or.inr (Or.inr fun _ q => Or.inr (Or.inr q)), ?_⟩
      refine Goes.runS X [(.iadd, 1), (.aload 7, 2), (.iconst 4, 1), (.iload 6, 2)] (S' := [.int (5 : Int32), .int (4 : Int32), .ref a597, .int ((((Int32.ofNat (own_dotN 5 0 (own_cl c598))) + (Int32.ofNat (own_dotN 5 1 (own_cl c599)))) + (Int32.ofNat (own_dotN 5 2 (own_cl c600)))) + (Int32.ofNat (own_dotN 5 3 (own_cl c601))))]) (pc' := 269) rfl ?_
      refine Goes.callS X 1 [0] [] (D_dot l Z a0 h0 hw a597 _ 5 4 (by omega) (by decide) c602 rfl) (wd hw 60 rfl) (wd hw 61 rfl) (wd hw 4 rfl) (wd hw 62 rfl) pd_y_7 rfl (st := [.int ((((Int32.ofNat (own_dotN 5 0 (own_cl c598))) + (Int32.ofNat (own_dotN 5 1 (own_cl c599)))) + (Int32.ofNat (own_dotN 5 2 (own_cl c600)))) + (Int32.ofNat (own_dotN 5 3 (own_cl c601))))]) rfl rfl (G := []) rfl rfl ?_
      rintro _ _ ⟨rfl, rfl⟩
      refine ⟨Or.inr (Or.inr fun _ q => Or.inr (Or.inr q)), ?_⟩
      refine Goes.runS X [(.iadd, 1)] (S' := [.int (((((Int32.ofNat (own_dotN 5 0 (own_cl c598))) + (Int32.ofNat (own_dotN 5 1 (own_cl c599)))) + (Int32.ofNat (own_dotN 5 2 (own_cl c600)))) + (Int32.ofNat (own_dotN 5 3 (own_cl c601)))) + (Int32.ofNat (own_dotN 5 4 (own_cl c602))))]) (pc' := 273) rfl ?_
      obtain ⟨dots, hdots⟩ : ∃ x, own_dotL 5 [(own_cl c598), (own_cl c599), (own_cl c600), (own_cl c601), (own_cl c602)] = x := ⟨_, rfl⟩
      have ldots : dots ≤ 9 := hdots ▸ own_dotL_le _ _
      rw [show (((((Int32.ofNat (own_dotN 5 0 (own_cl c598))) + (Int32.ofNat (own_dotN 5 1 (own_cl c599)))) + (Int32.ofNat (own_dotN 5 2 (own_cl c600)))) + (Int32.ofNat (own_dotN 5 3 (own_cl c601)))) + (Int32.ofNat (own_dotN 5 4 (own_cl c602)))) = Int32.ofNat dots from by rw [← hdots]; simp only [← Int32.ofNat_add]; rfl]
      show Goes _ _ _ _ _ _ _ _ _ _ _ _ _ _ _ _ _ _ _ _ [(a597, ar "[C" .char [.int c598, .int c599, .int c600, .int c601, .int c602])] 16 399 (mkF m 273 #[.val (.int p0), .val (.int p1), .val (.int p2), .val (.int p3), .val (.int p4), .val (.int p5), .val (.int (5 : Int32)), .val (.ref a597), .val (.ref a603), .val (.int pv), .val (.int (0 : Int32)), .val (.int (Int32.ofNat bad)), .unset, .unset, .unset] [.int (Int32.ofNat dots)])
      refine Goes.run X [(.istore 12, 2), (.aload 7, 2), (.iload 6, 2)] (L' := #[.val (.int p0), .val (.int p1), .val (.int p2), .val (.int p3), .val (.int p4), .val (.int p5), .val (.int (5 : Int32)), .val (.ref a597), .val (.ref a603), .val (.int pv), .val (.int (0 : Int32)), .val (.int (Int32.ofNat bad)), .val (.int (Int32.ofNat dots)), .unset, .unset]) (S' := [.int (5 : Int32), .ref a597]) (pc' := 279) rfl ?_
      refine Goes.callS X 0 [0] [] (D_fd l Z a0 h0 hw a597 c598 c599 c600 c601 c602 5 (by decide)) (wd hw 63 rfl) (wd hw 64 rfl) (wd hw 4 rfl) (wd hw 65 rfl) pd_y_8 rfl (st := []) rfl rfl (G := []) rfl rfl ?_
      rintro _ _ ⟨rfl, rfl⟩
      refine ⟨Or.inr (Or.inr fun _ q => Or.inr (Or.inr q)), ?_⟩
      obtain ⟨fd, hfd⟩ : ∃ x, own_fdL 5 [(own_cl c598), (own_cl c599), (own_cl c600), (own_cl c601), (own_cl c602)] = x := ⟨_, rfl⟩
      rw [show own_fdN 5 (own_cl c598) (own_cl c599) (own_cl c600) (own_cl c601) (own_cl c602) = fd from hfd]
      have lfd : fd ≤ 9 := hfd ▸ own_fdN_le _ _ _ _ _ _
      show Goes _ _ _ _ _ _ _ _ _ _ _ _ _ _ _ _ _ _ _ _ [(a597, ar "[C" .char [.int c598, .int c599, .int c600, .int c601, .int c602])] 16 399 (mkF m 282 #[.val (.int p0), .val (.int p1), .val (.int p2), .val (.int p3), .val (.int p4), .val (.int p5), .val (.int (5 : Int32)), .val (.ref a597), .val (.ref a603), .val (.int pv), .val (.int (0 : Int32)), .val (.int (Int32.ofNat bad)), .val (.int (Int32.ofNat dots)), .unset, .unset] [.int (own_fdI fd)])
      refine Goes.run X [(.istore 13, 2), (.iload 6, 2), (.iload 10, 2)] (L' := #[.val (.int p0), .val (.int p1), .val (.int p2), .val (.int p3), .val (.int p4), .val (.int p5), .val (.int (5 : Int32)), .val (.ref a597), .val (.ref a603), .val (.int pv), .val (.int (0 : Int32)), .val (.int (Int32.ofNat bad)), .val (.int (Int32.ofNat dots)), .val (.int (own_fdI fd)), .unset]) (S' := [.int (0 : Int32), .int (5 : Int32)]) (pc' := 288) rfl ?_
      refine Goes.if2 X (pc' := 327) (o := 39) (cd := .le) (fun q => absurd q (by decide)) (fun _ => ?_)
      refine Goes.runS X [(.iload 11, 2)] (S' := [.int (Int32.ofNat bad)]) (pc' := 293) rfl ?_
      refine Goes.if1 X (pc' := 327) (o := 34) (cd := .ne) (fun q680 => ?_) (fun q680 => ?_)
      · have h681 := own_sT (own_s0 _ lbad) q680
        refine Goes.run X [(.iconst 0, 1), (.istore 14, 2), (.iload 9, 2), (.iload 14, 2)] (L' := #[.val (.int p0), .val (.int p1), .val (.int p2), .val (.int p3), .val (.int p4), .val (.int p5), .val (.int (5 : Int32)), .val (.ref a597), .val (.ref a603), .val (.int pv), .val (.int (0 : Int32)), .val (.int (Int32.ofNat bad)), .val (.int (Int32.ofNat dots)), .val (.int (own_fdI fd)), .val (.int (0 : Int32))]) (S' := [.int (0 : Int32), .int pv]) (pc' := 334) rfl ?_
        have hp682 : pv = 0 := by rw [← hpv, ha, own_refA]; simp [hbad, hdots, hfd, h681]
        refine Goes.if2 X (pc' := 341) (o := 7) (cd := .ne) (fun q => absurd (q.symm.trans (by rw [hp682]; decide : if_icmp.holds .ne pv (0 : Int32) = false)) (by decide)) (fun _ => ?_)
        refine Goes.runS X [(.iconst 1, 1)] (S' := [.int (1 : Int32)]) (pc' := 338) rfl ?_
        refine Goes.goto X (o := 4) (pc' := 342) ?_
        refine Goes.retI X (by simp) rfl ?_
        exact rfl
      · have h683 := own_sF (own_s0 _ lbad) q680
        have h683 := Classical.not_not.mp h683
        refine Goes.runS X [(.iload 12, 2), (.iconst 1, 1)] (S' := [.int (1 : Int32), .int (Int32.ofNat dots)]) (pc' := 299) rfl ?_
        refine Goes.if2 X (pc' := 327) (o := 28) (cd := .gt) (fun q684 => ?_) (fun q684 => ?_)
        · have h685 := own_sT (own_s1 _ ldots) q684
          refine Goes.run X [(.iconst 0, 1), (.istore 14, 2), (.iload 9, 2), (.iload 14, 2)] (L' := #[.val (.int p0), .val (.int p1), .val (.int p2), .val (.int p3), .val (.int p4), .val (.int p5), .val (.int (5 : Int32)), .val (.ref a597), .val (.ref a603), .val (.int pv), .val (.int (0 : Int32)), .val (.int (Int32.ofNat bad)), .val (.int (Int32.ofNat dots)), .val (.int (own_fdI fd)), .val (.int (0 : Int32))]) (S' := [.int (0 : Int32), .int pv]) (pc' := 334) rfl ?_
          have hp686 : pv = 0 := by rw [← hpv, ha, own_refA]; simp [hbad, hdots, hfd, h683, h685]
          refine Goes.if2 X (pc' := 341) (o := 7) (cd := .ne) (fun q => absurd (q.symm.trans (by rw [hp686]; decide : if_icmp.holds .ne pv (0 : Int32) = false)) (by decide)) (fun _ => ?_)
          refine Goes.runS X [(.iconst 1, 1)] (S' := [.int (1 : Int32)]) (pc' := 338) rfl ?_
          refine Goes.goto X (o := 4) (pc' := 342) ?_
          refine Goes.retI X (by simp) rfl ?_
          exact rfl
        · have h687 := own_sF (own_s1 _ ldots) q684
          refine Goes.runS X [(.iload 12, 2)] (S' := [.int (Int32.ofNat dots)]) (pc' := 304) rfl ?_
          refine Goes.if1 X (pc' := 323) (o := 19) (cd := .eq) (fun q688 => ?_) (fun q688 => ?_)
          · have h689 := own_sT (own_s0' _ ldots) q688
            refine Goes.runS X [(.iconst 1, 1)] (S' := [.int (1 : Int32)]) (pc' := 324) rfl ?_
            refine Goes.goto X (o := 4) (pc' := 328) ?_
            refine Goes.run X [(.istore 14, 2), (.iload 9, 2), (.iload 14, 2)] (L' := #[.val (.int p0), .val (.int p1), .val (.int p2), .val (.int p3), .val (.int p4), .val (.int p5), .val (.int (5 : Int32)), .val (.ref a597), .val (.ref a603), .val (.int pv), .val (.int (0 : Int32)), .val (.int (Int32.ofNat bad)), .val (.int (Int32.ofNat dots)), .val (.int (own_fdI fd)), .val (.int (1 : Int32))]) (S' := [.int (1 : Int32), .int pv]) (pc' := 334) rfl ?_
            have hp690 : pv = 1 := by rw [← hpv, ha, own_refA]; simp [hbad, hdots, hfd, h683, h687, h689]
            refine Goes.if2 X (pc' := 341) (o := 7) (cd := .ne) (fun q => absurd (q.symm.trans (by rw [hp690]; decide : if_icmp.holds .ne pv (1 : Int32) = false)) (by decide)) (fun _ => ?_)
            refine Goes.runS X [(.iconst 1, 1)] (S' := [.int (1 : Int32)]) (pc' := 338) rfl ?_
            refine Goes.goto X (o := 4) (pc' := 342) ?_
            refine Goes.retI X (by simp) rfl ?_
            exact rfl
          · have h691 := own_sF (own_s0' _ ldots) q688
            refine Goes.runS X [(.iload 13, 2), (.iload 10, 2)] (S' := [.int (0 : Int32), .int (own_fdI fd)]) (pc' := 311) rfl ?_
            refine Goes.if2 X (pc' := 327) (o := 16) (cd := .eq) (fun q692 => ?_) (fun q692 => ?_)
            · have h693 := own_sT (own_s3 _ lfd 0 (by decide)) q692
              refine Goes.run X [(.iconst 0, 1), (.istore 14, 2), (.iload 9, 2), (.iload 14, 2)] (L' := #[.val (.int p0), .val (.int p1), .val (.int p2), .val (.int p3), .val (.int p4), .val (.int p5), .val (.int (5 : Int32)), .val (.ref a597), .val (.ref a603), .val (.int pv), .val (.int (0 : Int32)), .val (.int (Int32.ofNat bad)), .val (.int (Int32.ofNat dots)), .val (.int (own_fdI fd)), .val (.int (0 : Int32))]) (S' := [.int (0 : Int32), .int pv]) (pc' := 334) rfl ?_
              have hp694 : pv = 0 := by rw [← hpv, ha, own_refA]; simp [hbad, hdots, hfd, h683, h687, h691, h693]
              refine Goes.if2 X (pc' := 341) (o := 7) (cd := .ne) (fun q => absurd (q.symm.trans (by rw [hp694]; decide : if_icmp.holds .ne pv (0 : Int32) = false)) (by decide)) (fun _ => ?_)
              refine Goes.runS X [(.iconst 1, 1)] (S' := [.int (1 : Int32)]) (pc' := 338) rfl ?_
              refine Goes.goto X (o := 4) (pc' := 342) ?_
              refine Goes.retI X (by simp) rfl ?_
              exact rfl
            · have h695 := own_sF (own_s3 _ lfd 0 (by decide)) q692
              refine Goes.runS X [(.iload 13, 2), (.iload 6, 2), (.iconst 1, 1), (.isub, 1)] (S' := [.int (4 : Int32), .int (own_fdI fd)]) (pc' := 320) rfl ?_
              refine Goes.if2 X (pc' := 327) (o := 7) (cd := .eq) (fun q696 => ?_) (fun q696 => ?_)
              · have h697 := own_sT (own_s3 _ lfd 4 (by decide)) q696
                refine Goes.run X [(.iconst 0, 1), (.istore 14, 2), (.iload 9, 2), (.iload 14, 2)] (L' := #[.val (.int p0), .val (.int p1), .val (.int p2), .val (.int p3), .val (.int p4), .val (.int p5), .val (.int (5 : Int32)), .val (.ref a597), .val (.ref a603), .val (.int pv), .val (.int (0 : Int32)), .val (.int (Int32.ofNat bad)), .val (.int (Int32.ofNat dots)), .val (.int (own_fdI fd)), .val (.int (0 : Int32))]) (S' := [.int (0 : Int32), .int pv]) (pc' := 334) rfl ?_
                have hp698 : pv = 0 := by rw [← hpv, ha, own_refA]; simp [hbad, hdots, hfd, h683, h687, h691, h695, h697]
                refine Goes.if2 X (pc' := 341) (o := 7) (cd := .ne) (fun q => absurd (q.symm.trans (by rw [hp698]; decide : if_icmp.holds .ne pv (0 : Int32) = false)) (by decide)) (fun _ => ?_)
                refine Goes.runS X [(.iconst 1, 1)] (S' := [.int (1 : Int32)]) (pc' := 338) rfl ?_
                refine Goes.goto X (o := 4) (pc' := 342) ?_
                refine Goes.retI X (by simp) rfl ?_
                exact rfl
              · have h699 := own_sF (own_s3 _ lfd 4 (by decide)) q696
                refine Goes.runS X [(.iconst 1, 1)] (S' := [.int (1 : Int32)]) (pc' := 324) rfl ?_
                refine Goes.goto X (o := 4) (pc' := 328) ?_
                refine Goes.run X [(.istore 14, 2), (.iload 9, 2), (.iload 14, 2)] (L' := #[.val (.int p0), .val (.int p1), .val (.int p2), .val (.int p3), .val (.int p4), .val (.int p5), .val (.int (5 : Int32)), .val (.ref a597), .val (.ref a603), .val (.int pv), .val (.int (0 : Int32)), .val (.int (Int32.ofNat bad)), .val (.int (Int32.ofNat dots)), .val (.int (own_fdI fd)), .val (.int (1 : Int32))]) (S' := [.int (1 : Int32), .int pv]) (pc' := 334) rfl ?_
                have hp700 : pv = 1 := by rw [← hpv, ha, own_refA]; simp [hbad, hdots, hfd, h683, h687, h691, h695, h699]
                refine Goes.if2 X (pc' := 341) (o := 7) (cd := .ne) (fun q => absurd (q.symm.trans (by rw [hp700]; decide : if_icmp.holds .ne pv (1 : Int32) = false)) (by decide)) (fun _ => ?_)
                refine Goes.runS X [(.iconst 1, 1)] (S' := [.int (1 : Int32)]) (pc' := 338) rfl ?_
                refine Goes.goto X (o := 4) (pc' := 342) ?_
                refine Goes.retI X (by simp) rfl ?_
                exact rfl
    · have h701 : c598 = 45 := by simpa [if_icmp.holds] using q678
      have ha : own_refN 5 [(own_cl c598), (own_cl c599), (own_cl c600), (own_cl c601), (own_cl c602)] = own_refA 5 1 [(own_cl c598), (own_cl c599), (own_cl c600), (own_cl c601), (own_cl c602)] := congrArg (fun z => own_refA 5 z [(own_cl c598), (own_cl c599), (own_cl c600), (own_cl c601), (own_cl c602)]) (if_pos ⟨by decide, (own_cl0 _).mpr h701⟩)
      refine Goes.runS X [(.iconst 1, 1)] (S' := [.int (1 : Int32)]) (pc' := 167) rfl ?_
      refine Goes.goto X (o := 4) (pc' := 171) ?_
      refine Goes.run X [(.istore 10, 2), (.aload 7, 2), (.iconst 0, 1), (.iload 6, 2), (.iload 10, 2)] (L' := #[.val (.int p0), .val (.int p1), .val (.int p2), .val (.int p3), .val (.int p4), .val (.int p5), .val (.int (5 : Int32)), .val (.ref a597), .val (.ref a603), .val (.int pv), .val (.int (1 : Int32)), .unset, .unset, .unset, .unset]) (S' := [.int (1 : Int32), .int (5 : Int32), .int (0 : Int32), .ref a597]) (pc' := 180) rfl ?_
      refine Goes.callS X 0 [0] [] (D_bad l Z a0 h0 hw a597 _ 5 1 0 (by decide) (by decide) (by decide) c598 rfl) (wd hw 57 rfl) (wd hw 58 rfl) (wd hw 4 rfl) (wd hw 59 rfl) pd_y_6 rfl (st := []) rfl rfl (G := []) rfl rfl ?_
      rintro _ _ ⟨rfl, rfl⟩
      refine ⟨Or.inr (Or.inr fun _ q => Or.inr (Or.inr q)), ?_⟩
      refine Goes.runS X [(.aload 7, 2), (.iconst 1, 1), (.iload 6, 2), (.iload 10, 2)] (S' := [.int (1 : Int32), .int (5 : Int32), .int (1 : Int32), .ref a597, .int (Int32.ofNat (own_badN 5 1 0 (own_cl c598)))]) (pc' := 190) rfl ?_
      refine Goes.callS X 1 [0] [] (D_bad l Z a0 h0 hw a597 _ 5 1 1 (by decide) (by decide) (by decide) c599 rfl) (wd hw 57 rfl) (wd hw 58 rfl) (wd hw 4 rfl) (wd hw 59 rfl) pd_y_6 rfl (st := [.int (Int32.ofNat (own_badN 5 1 0 (own_cl c598)))]) rfl rfl (G := []) rfl rfl ?_
      rintro _ _ ⟨rfl, rfl⟩
      refine ⟨Or.inr (Or.inr fun _ q => Or.inr (Or.inr q)), ?_⟩
      refine Goes.runS X [(.iadd, 1), (.aload 7, 2), (.iconst 2, 1), (.iload 6, 2), (.iload 10, 2)] (S' := [.int (1 : Int32), .int (5 : Int32), .int (2 : Int32), .ref a597, .int ((Int32.ofNat (own_badN 5 1 0 (own_cl c598))) + (Int32.ofNat (own_badN 5 1 1 (own_cl c599))))]) (pc' := 201) rfl ?_
      refine Goes.callS X 1 [0] [] (D_bad l Z a0 h0 hw a597 _ 5 1 2 (by decide) (by decide) (by decide) c600 rfl) (wd hw 57 rfl) (wd hw 58 rfl) (wd hw 4 rfl) (wd hw 59 rfl) pd_y_6 rfl (st := [.int ((Int32.ofNat (own_badN 5 1 0 (own_cl c598))) + (Int32.ofNat (own_badN 5 1 1 (own_cl c599))))]) rfl rfl (G := []) rfl rfl ?_
      rintro _ _ ⟨rfl, rfl⟩
      refine ⟨Or.inr (Or.inr fun _ q => Or.inr (Or.inr q)), ?_⟩
      refine Goes.runS X [(.iadd, 1), (.aload 7, 2), (.iconst 3, 1), (.iload 6, 2), (.iload 10, 2)] (S' := [.int (1 : Int32), .int (5 : Int32), .int (3 : Int32), .ref a597, .int (((Int32.ofNat (own_badN 5 1 0 (own_cl c598))) + (Int32.ofNat (own_badN 5 1 1 (own_cl c599)))) + (Int32.ofNat (own_badN 5 1 2 (own_cl c600))))]) (pc' := 212) rfl ?_
      refine Goes.callS X 1 [0] [] (D_bad l Z a0 h0 hw a597 _ 5 1 3 (by decide) (by decide) (by decide) c601 rfl) (wd hw 57 rfl) (wd hw 58 rfl) (wd hw 4 rfl) (wd hw 59 rfl) pd_y_6 rfl (st := [.int (((Int32.ofNat (own_badN 5 1 0 (own_cl c598))) + (Int32.ofNat (own_badN 5 1 1 (own_cl c599)))) + (Int32.ofNat (own_badN 5 1 2 (own_cl c600))))]) rfl rfl (G := []) rfl rfl ?_
      rintro _ _ ⟨rfl, rfl⟩
      refine ⟨Or.inr (Or.inr fun _ q => Or.inr (Or.inr q)), ?_⟩
      refine Goes.runS X [(.iadd, 1), (.aload 7, 2), (.iconst 4, 1), (.iload 6, 2), (.iload 10, 2)] (S' := [.int (1 : Int32), .int (5 : Int32), .int (4 : Int32), .ref a597, .int ((((Int32.ofNat (own_badN 5 1 0 (own_cl c598))) + (Int32.ofNat (own_badN 5 1 1 (own_cl c599)))) + (Int32.ofNat (own_badN 5 1 2 (own_cl c600)))) + (Int32.ofNat (own_badN 5 1 3 (own_cl c601))))]) (pc' := 223) rfl ?_
      refine Goes.callS X 1 [0] [] (D_bad l Z a0 h0 hw a597 _ 5 1 4 (by decide) (by decide) (by decide) c602 rfl) (wd hw 57 rfl) (wd hw 58 rfl) (wd hw 4 rfl) (wd hw 59 rfl) pd_y_6 rfl (st := [.int ((((Int32.ofNat (own_badN 5 1 0 (own_cl c598))) + (Int32.ofNat (own_badN 5 1 1 (own_cl c599)))) + (Int32.ofNat (own_badN 5 1 2 (own_cl c600)))) + (Int32.ofNat (own_badN 5 1 3 (own_cl c601))))]) rfl rfl (G := []) rfl rfl ?_
      rintro _ _ ⟨rfl, rfl⟩
      refine ⟨Or.inr (Or.inr fun _ q => Or.inr (Or.inr q)), ?_⟩
      refine Goes.runS X [(.iadd, 1)] (S' := [.int (((((Int32.ofNat (own_badN 5 1 0 (own_cl c598))) + (Int32.ofNat (own_badN 5 1 1 (own_cl c599)))) + (Int32.ofNat (own_badN 5 1 2 (own_cl c600)))) + (Int32.ofNat (own_badN 5 1 3 (own_cl c601)))) + (Int32.ofNat (own_badN 5 1 4 (own_cl c602))))]) (pc' := 227) rfl ?_
      obtain ⟨bad, hbad⟩ : ∃ x, own_badL 5 1 [(own_cl c598), (own_cl c599), (own_cl c600), (own_cl c601), (own_cl c602)] = x := ⟨_, rfl⟩
      have lbad : bad ≤ 9 := hbad ▸ own_badL_le _ _ _
      rw [show (((((Int32.ofNat (own_badN 5 1 0 (own_cl c598))) + (Int32.ofNat (own_badN 5 1 1 (own_cl c599)))) + (Int32.ofNat (own_badN 5 1 2 (own_cl c600)))) + (Int32.ofNat (own_badN 5 1 3 (own_cl c601)))) + (Int32.ofNat (own_badN 5 1 4 (own_cl c602)))) = Int32.ofNat bad from by rw [← hbad]; simp only [← Int32.ofNat_add]; rfl]
      show Goes _ _ _ _ _ _ _ _ _ _ _ _ _ _ _ _ _ _ _ _ [(a597, ar "[C" .char [.int c598, .int c599, .int c600, .int c601, .int c602])] 16 399 (mkF m 227 #[.val (.int p0), .val (.int p1), .val (.int p2), .val (.int p3), .val (.int p4), .val (.int p5), .val (.int (5 : Int32)), .val (.ref a597), .val (.ref a603), .val (.int pv), .val (.int (1 : Int32)), .unset, .unset, .unset, .unset] [.int (Int32.ofNat bad)])
      refine Goes.run X [(.istore 11, 2), (.aload 7, 2), (.iconst 0, 1), (.iload 6, 2)] (L' := #[.val (.int p0), .val (.int p1), .val (.int p2), .val (.int p3), .val (.int p4), .val (.int p5), .val (.int (5 : Int32)), .val (.ref a597), .val (.ref a603), .val (.int pv), .val (.int (1 : Int32)), .val (.int (Int32.ofNat bad)), .unset, .unset, .unset]) (S' := [.int (5 : Int32), .int (0 : Int32), .ref a597]) (pc' := 234) rfl ?_
      refine Goes.callS X 0 [0] [] (D_dot l Z a0 h0 hw a597 _ 5 0 (by omega) (by decide) c598 rfl) (wd hw 60 rfl) (wd hw 61 rfl) (wd hw 4 rfl) (wd hw 62 rfl) pd_y_7 rfl (st := []) rfl rfl (G := []) rfl rfl ?_
      rintro _ _ ⟨rfl, rfl⟩
      refine ⟨Or.inr (Or.inr fun _ q => Or.inr (Or.inr q)), ?_⟩
      refine Goes.runS X [(.aload 7, 2), (.iconst 1, 1), (.iload 6, 2)] (S' := [.int (5 : Int32), .int (1 : Int32), .ref a597, .int (Int32.ofNat (own_dotN 5 0 (own_cl c598)))]) (pc' := 242) rfl ?_
      refine Goes.callS X 1 [0] [] (D_dot l Z a0 h0 hw a597 _ 5 1 (by omega) (by decide) c599 rfl) (wd hw 60 rfl) (wd hw 61 rfl) (wd hw 4 rfl) (wd hw 62 rfl) pd_y_7 rfl (st := [.int (Int32.ofNat (own_dotN 5 0 (own_cl c598)))]) rfl rfl (G := []) rfl rfl ?_
      rintro _ _ ⟨rfl, rfl⟩
      refine ⟨Or.inr (Or.inr fun _ q => Or.inr (Or.inr q)), ?_⟩
      refine Goes.runS X [(.iadd, 1), (.aload 7, 2), (.iconst 2, 1), (.iload 6, 2)] (S' := [.int (5 : Int32), .int (2 : Int32), .ref a597, .int ((Int32.ofNat (own_dotN 5 0 (own_cl c598))) + (Int32.ofNat (own_dotN 5 1 (own_cl c599))))]) (pc' := 251) rfl ?_
      refine Goes.callS X 1 [0] [] (D_dot l Z a0 h0 hw a597 _ 5 2 (by omega) (by decide) c600 rfl) (wd hw 60 rfl) (wd hw 61 rfl) (wd hw 4 rfl) (wd hw 62 rfl) pd_y_7 rfl (st := [.int ((Int32.ofNat (own_dotN 5 0 (own_cl c598))) + (Int32.ofNat (own_dotN 5 1 (own_cl c599))))]) rfl rfl (G := []) rfl rfl ?_
      rintro _ _ ⟨rfl, rfl⟩
      refine ⟨Or.inr (Or.inr fun _ q => Or.inr (Or.inr q)), ?_⟩
      refine Goes.runS X [(.iadd, 1), (.aload 7, 2), (.iconst 3, 1), (.iload 6, 2)] (S' := [.int (5 : Int32), .int (3 : Int32), .ref a597, .int (((Int32.ofNat (own_dotN 5 0 (own_cl c598))) + (Int32.ofNat (own_dotN 5 1 (own_cl c599)))) + (Int32.ofNat (own_dotN 5 2 (own_cl c600))))]) (pc' := 260) rfl ?_
      refine Goes.callS X 1 [0] [] (D_dot l Z a0 h0 hw a597 _ 5 3 (by omega) (by decide) c601 rfl) (wd hw 60 rfl) (wd hw 61 rfl) (wd hw 4 rfl) (wd hw 62 rfl) pd_y_7 rfl (st := [.int (((Int32.ofNat (own_dotN 5 0 (own_cl c598))) + (Int32.ofNat (own_dotN 5 1 (own_cl c599)))) + (Int32.ofNat (own_dotN 5 2 (own_cl c600))))]) rfl rfl (G := []) rfl rfl ?_
      rintro _ _ ⟨rfl, rfl⟩
      refine ⟨Or.inr (Or.inr fun _ q => Or.inr (Or.inr q)), ?_⟩
      refine Goes.runS X [(.iadd, 1), (.aload 7, 2), (.iconst 4, 1), (.iload 6, 2)] (S' := [.int (5 : Int32), .int (4 : Int32), .ref a597, .int ((((Int32.ofNat (own_dotN 5 0 (own_cl c598))) + (Int32.ofNat (own_dotN 5 1 (own_cl c599)))) + (Int32.ofNat (own_dotN 5 2 (own_cl c600)))) + (Int32.ofNat (own_dotN 5 3 (own_cl c601))))]) (pc' := 269) rfl ?_
      refine Goes.callS X 1 [0] [] (D_dot l Z a0 h0 hw a597 _ 5 4 (by omega) (by decide) c602 rfl) (wd hw 60 rfl) (wd hw 61 rfl) (wd hw 4 rfl) (wd hw 62 rfl) pd_y_7 rfl (st := [.int ((((Int32.ofNat (own_dotN 5 0 (own_cl c598))) + (Int32.ofNat (own_dotN 5 1 (own_cl c599)))) + (Int32.ofNat (own_dotN 5 2 (own_cl c600)))) + (Int32.ofNat (own_dotN 5 3 (own_cl c601))))]) rfl rfl (G := []) rfl rfl ?_
      rintro _ _ ⟨rfl, rfl⟩
      refine ⟨Or.inr (Or.inr fun _ q => Or.inr (Or.inr q)), ?_⟩
      refine Goes.runS X [(.iadd, 1)] (S' := [.int (((((Int32.ofNat (own_dotN 5 0 (own_cl c598))) + (Int32.ofNat (own_dotN 5 1 (own_cl c599)))) + (Int32.ofNat (own_dotN 5 2 (own_cl c600)))) + (Int32.ofNat (own_dotN 5 3 (own_cl c601)))) + (Int32.ofNat (own_dotN 5 4 (own_cl c602))))]) (pc' := 273) rfl ?_
      obtain ⟨dots, hdots⟩ : ∃ x, own_dotL 5 [(own_cl c598), (own_cl c599), (own_cl c600), (own_cl c601), (own_cl c602)] = x := ⟨_, rfl⟩
      have ldots : dots ≤ 9 := hdots ▸ own_dotL_le _ _
      rw [show (((((Int32.ofNat (own_dotN 5 0 (own_cl c598))) + (Int32.ofNat (own_dotN 5 1 (own_cl c599)))) + (Int32.ofNat (own_dotN 5 2 (own_cl c600)))) + (Int32.ofNat (own_dotN 5 3 (own_cl c601)))) + (Int32.ofNat (own_dotN 5 4 (own_cl c602)))) = Int32.ofNat dots from by rw [← hdots]; simp only [← Int32.ofNat_add]; rfl]
      show Goes _ _ _ _ _ _ _ _ _ _ _ _ _ _ _ _ _ _ _ _ [(a597, ar "[C" .char [.int c598, .int c599, .int c600, .int c601, .int c602])] 16 399 (mkF m 273 #[.val (.int p0), .val (.int p1), .val (.int p2), .val (.int p3), .val (.int p4), .val (.int p5), .val (.int (5 : Int32)), .val (.ref a597), .val (.ref a603), .val (.int pv), .val (.int (1 : Int32)), .val (.int (Int32.ofNat bad)), .unset, .unset, .unset] [.int (Int32.ofNat dots)])
      refine Goes.run X [(.istore 12, 2), (.aload 7, 2), (.iload 6, 2)] (L' := #[.val (.int p0), .val (.int p1), .val (.int p2), .val (.int p3), .val (.int p4), .val (.int p5), .val (.int (5 : Int32)), .val (.ref a597), .val (.ref a603), .val (.int pv), .val (.int (1 : Int32)), .val (.int (Int32.ofNat bad)), .val (.int (Int32.ofNat dots)), .unset, .unset]) (S' := [.int (5 : Int32), .ref a597]) (pc' := 279) rfl ?_
      refine Goes.callS X 0 [0] [] (D_fd l Z a0 h0 hw a597 c598 c599 c600 c601 c602 5 (by decide)) (wd hw 63 rfl) (wd hw 64 rfl) (wd hw 4 rfl) (wd hw 65 rfl) pd_y_8 rfl (st := []) rfl rfl (G := []) rfl rfl ?_
      rintro _ _ ⟨rfl, rfl⟩
      refine ⟨Or.inr (Or.inr fun _ q => Or.inr (Or.inr q)), ?_⟩
      obtain ⟨fd, hfd⟩ : ∃ x, own_fdL 5 [(own_cl c598), (own_cl c599), (own_cl c600), (own_cl c601), (own_cl c602)] = x := ⟨_, rfl⟩
      rw [show own_fdN 5 (own_cl c598) (own_cl c599) (own_cl c600) (own_cl c601) (own_cl c602) = fd from hfd]
      have lfd : fd ≤ 9 := hfd ▸ own_fdN_le _ _ _ _ _ _
      show Goes _ _ _ _ _ _ _ _ _ _ _ _ _ _ _ _ _ _ _ _ [(a597, ar "[C" .char [.int c598, .int c599, .int c600, .int c601, .int c602])] 16 399 (mkF m 282 #[.val (.int p0), .val (.int p1), .val (.int p2), .val (.int p3), .val (.int p4), .val (.int p5), .val (.int (5 : Int32)), .val (.ref a597), .val (.ref a603), .val (.int pv), .val (.int (1 : Int32)), .val (.int (Int32.ofNat bad)), .val (.int (Int32.ofNat dots)), .unset, .unset] [.int (own_fdI fd)])
      refine Goes.run X [(.istore 13, 2), (.iload 6, 2), (.iload 10, 2)] (L' := #[.val (.int p0), .val (.int p1), .val (.int p2), .val (.int p3), .val (.int p4), .val (.int p5), .val (.int (5 : Int32)), .val (.ref a597), .val (.ref a603), .val (.int pv), .val (.int (1 : Int32)), .val (.int (Int32.ofNat bad)), .val (.int (Int32.ofNat dots)), .val (.int (own_fdI fd)), .unset]) (S' := [.int (1 : Int32), .int (5 : Int32)]) (pc' := 288) rfl ?_
      refine Goes.if2 X (pc' := 327) (o := 39) (cd := .le) (fun q => absurd q (by decide)) (fun _ => ?_)
      refine Goes.runS X [(.iload 11, 2)] (S' := [.int (Int32.ofNat bad)]) (pc' := 293) rfl ?_
      refine Goes.if1 X (pc' := 327) (o := 34) (cd := .ne) (fun q702 => ?_) (fun q702 => ?_)
      · have h703 := own_sT (own_s0 _ lbad) q702
        refine Goes.run X [(.iconst 0, 1), (.istore 14, 2), (.iload 9, 2), (.iload 14, 2)] (L' := #[.val (.int p0), .val (.int p1), .val (.int p2), .val (.int p3), .val (.int p4), .val (.int p5), .val (.int (5 : Int32)), .val (.ref a597), .val (.ref a603), .val (.int pv), .val (.int (1 : Int32)), .val (.int (Int32.ofNat bad)), .val (.int (Int32.ofNat dots)), .val (.int (own_fdI fd)), .val (.int (0 : Int32))]) (S' := [.int (0 : Int32), .int pv]) (pc' := 334) rfl ?_
        have hp704 : pv = 0 := by rw [← hpv, ha, own_refA]; simp [hbad, hdots, hfd, h703]
        refine Goes.if2 X (pc' := 341) (o := 7) (cd := .ne) (fun q => absurd (q.symm.trans (by rw [hp704]; decide : if_icmp.holds .ne pv (0 : Int32) = false)) (by decide)) (fun _ => ?_)
        refine Goes.runS X [(.iconst 1, 1)] (S' := [.int (1 : Int32)]) (pc' := 338) rfl ?_
        refine Goes.goto X (o := 4) (pc' := 342) ?_
        refine Goes.retI X (by simp) rfl ?_
        exact rfl
      · have h705 := own_sF (own_s0 _ lbad) q702
        have h705 := Classical.not_not.mp h705
        refine Goes.runS X [(.iload 12, 2), (.iconst 1, 1)] (S' := [.int (1 : Int32), .int (Int32.ofNat dots)]) (pc' := 299) rfl ?_
        refine Goes.if2 X (pc' := 327) (o := 28) (cd := .gt) (fun q706 => ?_) (fun q706 => ?_)
        · have h707 := own_sT (own_s1 _ ldots) q706
          refine Goes.run X [(.iconst 0, 1), (.istore 14, 2), (.iload 9, 2), (.iload 14, 2)] (L' := #[.val (.int p0), .val (.int p1), .val (.int p2), .val (.int p3), .val (.int p4), .val (.int p5), .val (.int (5 : Int32)), .val (.ref a597), .val (.ref a603), .val (.int pv), .val (.int (1 : Int32)), .val (.int (Int32.ofNat bad)), .val (.int (Int32.ofNat dots)), .val (.int (own_fdI fd)), .val (.int (0 : Int32))]) (S' := [.int (0 : Int32), .int pv]) (pc' := 334) rfl ?_
          have hp708 : pv = 0 := by rw [← hpv, ha, own_refA]; simp [hbad, hdots, hfd, h705, h707]
          refine Goes.if2 X (pc' := 341) (o := 7) (cd := .ne) (fun q => absurd (q.symm.trans (by rw [hp708]; decide : if_icmp.holds .ne pv (0 : Int32) = false)) (by decide)) (fun _ => ?_)
          refine Goes.runS X [(.iconst 1, 1)] (S' := [.int (1 : Int32)]) (pc' := 338) rfl ?_
          refine Goes.goto X (o := 4) (pc' := 342) ?_
          refine Goes.retI X (by simp) rfl ?_
          exact rfl
        · have h709 := own_sF (own_s1 _ ldots) q706
          refine Goes.runS X [(.iload 12, 2)] (S' := [.int (Int32.ofNat dots)]) (pc' := 304) rfl ?_
          refine Goes.if1 X (pc' := 323) (o := 19) (cd := .eq) (fun q710 => ?_) (fun q710 => ?_)
          · have h711 := own_sT (own_s0' _ ldots) q710
            refine Goes.runS X [(.iconst 1, 1)] (S' := [.int (1 : Int32)]) (pc' := 324) rfl ?_
            refine Goes.goto X (o := 4) (pc' := 328) ?_
            refine Goes.run X [(.istore 14, 2), (.iload 9, 2), (.iload 14, 2)] (L' := #[.val (.int p0), .val (.int p1), .val (.int p2), .val (.int p3), .val (.int p4), .val (.int p5), .val (.int (5 : Int32)), .val (.ref a597), .val (.ref a603), .val (.int pv), .val (.int (1 : Int32)), .val (.int (Int32.ofNat bad)), .val (.int (Int32.ofNat dots)), .val (.int (own_fdI fd)), .val (.int (1 : Int32))]) (S' := [.int (1 : Int32), .int pv]) (pc' := 334) rfl ?_
            have hp712 : pv = 1 := by rw [← hpv, ha, own_refA]; simp [hbad, hdots, hfd, h705, h709, h711]
            refine Goes.if2 X (pc' := 341) (o := 7) (cd := .ne) (fun q => absurd (q.symm.trans (by rw [hp712]; decide : if_icmp.holds .ne pv (1 : Int32) = false)) (by decide)) (fun _ => ?_)
            refine Goes.runS X [(.iconst 1, 1)] (S' := [.int (1 : Int32)]) (pc' := 338) rfl ?_
            refine Goes.goto X (o := 4) (pc' := 342) ?_
            refine Goes.retI X (by simp) rfl ?_
            exact rfl
          · have h713 := own_sF (own_s0' _ ldots) q710
            refine Goes.runS X [(.iload 13, 2), (.iload 10, 2)] (S' := [.int (1 : Int32), .int (own_fdI fd)]) (pc' := 311) rfl ?_
            refine Goes.if2 X (pc' := 327) (o := 16) (cd := .eq) (fun q714 => ?_) (fun q714 => ?_)
            · have h715 := own_sT (own_s3 _ lfd 1 (by decide)) q714
              refine Goes.run X [(.iconst 0, 1), (.istore 14, 2), (.iload 9, 2), (.iload 14, 2)] (L' := #[.val (.int p0), .val (.int p1), .val (.int p2), .val (.int p3), .val (.int p4), .val (.int p5), .val (.int (5 : Int32)), .val (.ref a597), .val (.ref a603), .val (.int pv), .val (.int (1 : Int32)), .val (.int (Int32.ofNat bad)), .val (.int (Int32.ofNat dots)), .val (.int (own_fdI fd)), .val (.int (0 : Int32))]) (S' := [.int (0 : Int32), .int pv]) (pc' := 334) rfl ?_
              have hp716 : pv = 0 := by rw [← hpv, ha, own_refA]; simp [hbad, hdots, hfd, h705, h709, h713, h715]
              refine Goes.if2 X (pc' := 341) (o := 7) (cd := .ne) (fun q => absurd (q.symm.trans (by rw [hp716]; decide : if_icmp.holds .ne pv (0 : Int32) = false)) (by decide)) (fun _ => ?_)
              refine Goes.runS X [(.iconst 1, 1)] (S' := [.int (1 : Int32)]) (pc' := 338) rfl ?_
              refine Goes.goto X (o := 4) (pc' := 342) ?_
              refine Goes.retI X (by simp) rfl ?_
              exact rfl
            · have h717 := own_sF (own_s3 _ lfd 1 (by decide)) q714
              refine Goes.runS X [(.iload 13, 2), (.iload 6, 2), (.iconst 1, 1), (.isub, 1)] (S' := [.int (4 : Int32), .int (own_fdI fd)]) (pc' := 320) rfl ?_
              refine Goes.if2 X (pc' := 327) (o := 7) (cd := .eq) (fun q718 => ?_) (fun q718 => ?_)
              · have h719 := own_sT (own_s3 _ lfd 4 (by decide)) q718
                refine Goes.run X [(.iconst 0, 1), (.istore 14, 2), (.iload 9, 2), (.iload 14, 2)] (L' := #[.val (.int p0), .val (.int p1), .val (.int p2), .val (.int p3), .val (.int p4), .val (.int p5), .val (.int (5 : Int32)), .val (.ref a597), .val (.ref a603), .val (.int pv), .val (.int (1 : Int32)), .val (.int (Int32.ofNat bad)), .val (.int (Int32.ofNat dots)), .val (.int (own_fdI fd)), .val (.int (0 : Int32))]) (S' := [.int (0 : Int32), .int pv]) (pc' := 334) rfl ?_
                have hp720 : pv = 0 := by rw [← hpv, ha, own_refA]; simp [hbad, hdots, hfd, h705, h709, h713, h717, h719]
                refine Goes.if2 X (pc' := 341) (o := 7) (cd := .ne) (fun q => absurd (q.symm.trans (by rw [hp720]; decide : if_icmp.holds .ne pv (0 : Int32) = false)) (by decide)) (fun _ => ?_)
                refine Goes.runS X [(.iconst 1, 1)] (S' := [.int (1 : Int32)]) (pc' := 338) rfl ?_
                refine Goes.goto X (o := 4) (pc' := 342) ?_
                refine Goes.retI X (by simp) rfl ?_
                exact rfl
              · have h721 := own_sF (own_s3 _ lfd 4 (by decide)) q718
                refine Goes.runS X [(.iconst 1, 1)] (S' := [.int (1 : Int32)]) (pc' := 324) rfl ?_
                refine Goes.goto X (o := 4) (pc' := 328) ?_
                refine Goes.run X [(.istore 14, 2), (.iload 9, 2), (.iload 14, 2)] (L' := #[.val (.int p0), .val (.int p1), .val (.int p2), .val (.int p3), .val (.int p4), .val (.int p5), .val (.int (5 : Int32)), .val (.ref a597), .val (.ref a603), .val (.int pv), .val (.int (1 : Int32)), .val (.int (Int32.ofNat bad)), .val (.int (Int32.ofNat dots)), .val (.int (own_fdI fd)), .val (.int (1 : Int32))]) (S' := [.int (1 : Int32), .int pv]) (pc' := 334) rfl ?_
                have hp722 : pv = 1 := by rw [← hpv, ha, own_refA]; simp [hbad, hdots, hfd, h705, h709, h713, h717, h721]
                refine Goes.if2 X (pc' := 341) (o := 7) (cd := .ne) (fun q => absurd (q.symm.trans (by rw [hp722]; decide : if_icmp.holds .ne pv (1 : Int32) = false)) (by decide)) (fun _ => ?_)
                refine Goes.runS X [(.iconst 1, 1)] (S' := [.int (1 : Int32)]) (pc' := 338) rfl ?_
                refine Goes.goto X (o := 4) (pc' := 342) ?_
                refine Goes.retI X (by simp) rfl ?_
                exact rfl
set_option maxRecDepth 65536 in
set_option maxHeartbeats 40000000 in
theorem comes_1 {Post : Tables → Env → Array Value → State → Outcome → State → Prop} (hpost : ∀ tb e args s v u, (limb_1_1.after args s (.returned v) u = true ∧ limb_1_2.after args s (.returned v) u = true ∧ True) → ReturnedEndW s (.returned v) u (Jvm.fieldLocs frame_1_writes args s ++ Jvm.arrayLocs frame_1_arrays args s ++ Jvm.staticLocs frame_1_statics s) 24 1216 → Post tb e args s (.returned v) u) :
    ArmFor flags0 classFile x code maxLocals ret World_1 tables_1 room_1 Calls_1 rest_1 Pre_1 Post := by
  intro l hfl _ _ p e ha hc hk s m args below hf hA hF happ hP
  obtain ⟨hcalls, hrest, hpre⟩ := hP
  obtain ⟨-, -, -, hnamed, -, -, -, hat⟩ := (Spec.applies_iff hf).mp happ
  obtain ⟨hg, hn⟩ := and_e (Cond.before_iff.mp (show (Jvm.Cond.and given_1 narrow_1).before args s = true from hpre))
  obtain ⟨h1, h2⟩ := and_e hg
  obtain ⟨w0, w1, w2, w3, w4, w5, rfl⟩ : ∃ w0 w1 w2 w3 w4 w5 : Value, args = #[w0, w1, w2, w3, w4, w5] := by
    have hs : args.size = 6 := by simpa [Cond.value, given_1] using h1
    obtain ⟨L⟩ := args
    match L, hs with
    | [w0, w1, w2, w3, w4, w5], _ => exact ⟨w0, w1, w2, w3, w4, w5, rfl⟩
  have hw := fun d (hd : d ∈ tables_1) => atoms_spec (ws := Jvm.Cond.code x code maxLocals ret :: tables_1) hat d (List.mem_cons_of_mem _ hd)
  have hfit : Fit s := fun {y c} hc i hi => by
    obtain ⟨ha, rfl⟩ := Array.getElem?_eq_some_iff.mp hc
    have q := List.all_eq_true.mp ((Array.all_eq_true_iff_forall_mem.mp hF) _ (Array.getElem_mem ha)) i (List.mem_range.mpr hi)
    simpa [Array.getElem?_eq_getElem hi] using q
  obtain ⟨k0, h2⟩ := and_e h2
  obtain ⟨z0, ez0⟩ := is_v k0
  obtain rfl : w0 = (.int z0) := Option.some.inj ez0
  obtain ⟨k1, h2⟩ := and_e h2
  obtain ⟨z1, ez1⟩ := is_v k1
  obtain rfl : w1 = (.int z1) := Option.some.inj ez1
  obtain ⟨k2, h2⟩ := and_e h2
  obtain ⟨z2, ez2⟩ := is_v k2
  obtain rfl : w2 = (.int z2) := Option.some.inj ez2
  obtain ⟨k3, h2⟩ := and_e h2
  obtain ⟨z3, ez3⟩ := is_v k3
  obtain rfl : w3 = (.int z3) := Option.some.inj ez3
  obtain ⟨k4, h2⟩ := and_e h2
  obtain ⟨z4, ez4⟩ := is_v k4
  obtain rfl : w4 = (.int z4) := Option.some.inj ez4
  have k5 := h2
  obtain ⟨z5, ez5⟩ := is_v k5
  obtain rfl : w5 = (.int z5) := Option.some.inj ez5
  obtain ⟨hsets, hown0⟩ := atoms_of _ (rest_1_c_eq ▸ (show rest_1_c.before _ s = true from hrest))
  have n5 := not_v (Cond.before_iff.mp (hsets _ (List.mem_of_getElem? (i := 2) rfl)))
  obtain ⟨cs, ecs⟩ := is_v (Cond.before_iff.mp (hsets _ (List.mem_of_getElem? (i := 1) rfl)))
  have hCS : Sta s s.heap "java/lang/String" "COMPACT_STRINGS" "Z" (.int cs) := Sta.start ecs (Or.inl (hsets _ (List.mem_of_getElem? (i := 0) rfl)))
  have hcs : ¬ (cs = (0 : Int32)) := gotF (Cond.eq_ints ecs (Term.int_eval (0))) n5
  obtain ⟨sio, esio, rsio⟩ := isR_v (Cond.before_iff.mp (hsets _ (List.mem_of_getElem? (i := 8) rfl)))
  have hSIO : Sta s s.heap "jdk/internal/util/Preconditions" "SIOOBE_FORMATTER" "Ljava/util/function/BiFunction;" sio := Sta.start esio (Or.inl (hsets _ (List.mem_of_getElem? (i := 7) rfl)))
  have hsio : sio.category = 1 := by cases sio <;> first | rfl | (simp [Value.isRef] at rsio)
  have HS := Hp.startW s _ own_EL (own_EW hw) (fun p hp => hcalls.1 p hp) (Cond.before_iff.mpr (Cond.before_iff.mp (hsets _ (List.mem_of_getElem? (i := 2) rfl)))) (wd hw 32 rfl) (wd hw 79 rfl)
  have D := D_law l s _ s.heap hw cs hCS hcs sio hSIO hsio z0 z1 z2 z3 z4 z5
  obtain ⟨n, o, g1, g2, g3, v, L, rfl, ⟨N, F', k1, hQ, -⟩, hq⟩ := D tables_1 s.heap p e ha hc hk s m _ below hf ((Spec.applies_iff_loose hf).mp happ).1 ⟨rfl, State.Warmed39.refl s, rfl, HS⟩ trivial
  obtain rfl := hQ
  exact ⟨n, _, g1, g2, g3, hpost _ _ _ _ _ _ ⟨Cond.after_iff.mpr rfl, Cond.after_iff.mpr (eq_i res_at (Term.int_eval (1)) rfl), trivial⟩ ⟨hq.1, hq.2.1, hq.2.2.1, (hq.2.2.2.sift fun y hy => Or.inr (N y hy)).mono (by decide) (by decide)⟩⟩
theorem main_1_1 : Claimed_1_1 := comes_1 fun _ _ _ _ _ _ h hF => ⟨h.1, hF⟩
theorem main_1_2 : Claimed_1_2 := comes_1 fun _ _ _ _ _ _ h hF => ⟨h.2.1, hF⟩
end Jvm.Pilot.@@N@@
namespace Jvm.Pilot.@@N@@
open Jvm Jvm.ClassFile Sem Op Lib Jvm.Free Jvm.Stand Jvm.Pilot.@@N@@.Jvm.D
/-! MADE BY PROGRAM (witnessworld.py) out of the Statement's table words and the real class files: 23 classes; the members and pool entries that the words name. The judged class is class 1, her method 6. -/
namespace start1
open Jvm.ClassFile
def u (s : String) : CpInfo := .utf8 (stringToUtf16 s)
/-- a pool by its gaps: so many unusable entries, then the entry; so many at the end -/
def gap : Nat → List CpInfo → List CpInfo
  | 0, r => r
  | n + 1, r => .unusable :: gap n r
def poolList (es : List (Nat × CpInfo)) (last : Nat) : List CpInfo := es.foldr (fun e r => gap e.1 (e.2 :: r)) (gap last [])
def pool (es : List (Nat × CpInfo)) (last : Nat) : Array CpInfo := ⟨poolList es last⟩
def fileOf (pool : Array CpInfo) (this : Nat) (attrs : Array Attribute := #[]) (ms : Array MethodInfo := #[]) (fl : Nat := 33) (sup : Nat := 0) (ifs : Array Nat := #[]) (fds : Array FieldInfo := #[]) : ClassFile where
  minorVersion := 0
  majorVersion := 65
  constantPool := pool
  accessFlags := fl
  thisClass := this
  superClass := sup
  interfaces := ifs
  fields := fds
  methods := ms
  attributes := attrs
def plain (name : String) (sup : Option ClassId) : Class where
  name := name
  kind := .ordinary
  loader := none
  accessFlags := 33
  super := sup
  interfaces := #[]
  cf := none
  fields := #[]
  methods := #[]
  instanceTypes := #[]
  staticTypes := #[]
  resolved := #[]
  callSites := []
  init := .initialized
  statics := none
  mirror := none

def pool0 : Array CpInfo := pool [(5, u "<init>"), (0, u "()V"), (1, .class_ 10), (1, u "java/lang/Object")] 113

def k0c0 : Code := { maxStack := 0, maxLocals := 1, code := object_method_1_code, exceptionTable := #[], attributes := #[] }
def k0m0 : Method := { name := "<init>", desc := "()V", sig := { parameters := [], returnType := none }, accessFlags := 1, code := some k0c0 }
/-- java/lang/Object -/
def k0 : Class := { plain "java/lang/Object" none with
  accessFlags := 33
  interfaces := #[]
  cf := some (fileOf pool0 8 #[] #[{ accessFlags := 1, nameIndex := 5, descriptorIndex := 6, attributes := #[] }] 33 0 #[] #[])
  fields := #[]
  methods := #[k0m0]
  instanceTypes := #[]
  staticTypes := #[]
  resolved := Array.replicate 124 none
  statics := none }

def pool1 : Array CpInfo := pool [(2, .class_ 4), (1, u "java/lang/Object"), (0, u "<init>"), (0, u "()V"), (0, .string 8), (0, u "0123456789-.eE+x"), (0, .methodref 10 11), (0, .class_ 12), (0, .nameAndType 13 14), (0, u "java/lang/String"), (0, u "charAt"), (0, u "(I)C"), (0, .methodref 16 17), (0, .class_ 18), (0, .nameAndType 19 20), (0, u "com/example/yuanterm/yuanterm/DigitsIsPlainPinLaw"), (0, u "isDigit"), (0, u "(C)Z"), (0, .methodref 16 22), (0, .nameAndType 23 24), (0, u "dotAt"), (0, u "([CII)I"), (0, .integer 2147483647), (0, .methodref 16 27), (0, .nameAndType 28 14), (0, u "pick"), (0, .class_ 30), (0, u "com/example/yuanterm/yuanterm/Decimals$Digits"), (0, .methodref 29 32), (0, .nameAndType 5 33), (0, u "(I)V"), (0, .methodref 29 35), (0, .nameAndType 36 20), (0, u "add"), (0, .methodref 29 38), (0, .nameAndType 39 40), (0, u "isPlain"), (0, u "()Z"), (0, .methodref 16 42), (0, .nameAndType 43 44), (0, u "badAt"), (0, u "([CIII)I"), (0, .methodref 16 46), (0, .nameAndType 47 48), (0, u "firstDot"), (0, u "([CI)I"), (3, u "law"), (0, u "(IIIIII)Z")] 8

def k1m0 : Method := { name := "<init>", desc := "()V", sig := { parameters := [], returnType := none }, accessFlags := 2, code := none }
def k1c1 : Code := { maxStack := 3, maxLocals := 2, code := method_2_code, exceptionTable := #[], attributes := #[] }
def k1m1 : Method := { name := "pick", desc := "(I)C", sig := { parameters := [.int], returnType := some .char }, accessFlags := 10, code := some k1c1 }
def k1c2 : Code := { maxStack := 2, maxLocals := 1, code := method_3_code, exceptionTable := #[], attributes := #[] }
def k1m2 : Method := { name := "isDigit", desc := "(C)Z", sig := { parameters := [.char], returnType := some .boolean }, accessFlags := 10, code := some k1c2 }
def k1c3 : Code := { maxStack := 2, maxLocals := 4, code := method_4_code, exceptionTable := #[], attributes := #[] }
def k1m3 : Method := { name := "badAt", desc := "([CIII)I", sig := { parameters := [(.array .char), .int, .int, .int], returnType := some .int }, accessFlags := 10, code := some k1c3 }
def k1c4 : Code := { maxStack := 2, maxLocals := 3, code := method_5_code, exceptionTable := #[], attributes := #[] }
def k1m4 : Method := { name := "dotAt", desc := "([CII)I", sig := { parameters := [(.array .char), .int, .int], returnType := some .int }, accessFlags := 10, code := some k1c4 }
def k1c5 : Code := { maxStack := 3, maxLocals := 2, code := method_6_code, exceptionTable := #[], attributes := #[] }
def k1m5 : Method := { name := "firstDot", desc := "([CI)I", sig := { parameters := [(.array .char), .int], returnType := some .int }, accessFlags := 10, code := some k1c5 }
def k1c6 : Code := { maxStack := 5, maxLocals := 15, code := code, exceptionTable := #[], attributes := #[] }
def k1m6 : Method := { name := "law", desc := "(IIIIII)Z", sig := { parameters := [.int, .int, .int, .int, .int, .int], returnType := some .boolean }, accessFlags := 9, code := some k1c6 }
/-- com/example/yuanterm/yuanterm/DigitsIsPlainPinLaw -/
def k1 : Class := { plain "com/example/yuanterm/yuanterm/DigitsIsPlainPinLaw" (some 0) with
  accessFlags := 49
  interfaces := #[]
  cf := some (fileOf pool1 16 #[] #[{ accessFlags := 2, nameIndex := 5, descriptorIndex := 6, attributes := #[] }, { accessFlags := 10, nameIndex := 28, descriptorIndex := 14, attributes := #[] }, { accessFlags := 10, nameIndex := 19, descriptorIndex := 20, attributes := #[] }, { accessFlags := 10, nameIndex := 43, descriptorIndex := 44, attributes := #[] }, { accessFlags := 10, nameIndex := 23, descriptorIndex := 24, attributes := #[] }, { accessFlags := 10, nameIndex := 47, descriptorIndex := 48, attributes := #[] }, { accessFlags := 9, nameIndex := 52, descriptorIndex := 53, attributes := #[] }] 49 2 #[] #[])
  fields := #[]
  methods := #[k1m0, k1m1, k1m2, k1m3, k1m4, k1m5, k1m6]
  instanceTypes := #[]
  staticTypes := #[]
  resolved := Array.replicate 62 none
  statics := none }

def pool2 : Array CpInfo := pool [(1, .class_ 2), (0, u "com/example/yuanterm/yuanterm/Decimals"), (0, .methodref 4 5), (0, .class_ 6), (0, .nameAndType 7 8), (0, u "java/lang/Object"), (0, u "<init>"), (0, u "()V"), (0, .class_ 10), (0, u "com/example/yuanterm/yuanterm/Decimals$Digits"), (0, .fieldref 9 12), (0, .nameAndType 13 14), (0, u "state"), (0, u "I"), (0, .class_ 16), (0, u "java/lang/StringBuilder"), (0, .methodref 15 5), (0, .fieldref 9 19), (0, .nameAndType 20 21), (0, u "unscaled"), (0, u "Ljava/lang/StringBuilder;"), (0, .fieldref 9 23), (0, .nameAndType 24 21), (0, u "head"), (0, .fieldref 9 26), (0, .nameAndType 27 14), (0, u "headState"), (0, .fieldref 9 29), (0, .nameAndType 30 14), (0, u "kept"), (0, .methodref 1 32), (0, .nameAndType 33 34), (0, u "isDigit"), (0, u "(C)Z"), (0, .fieldref 9 36), (0, .nameAndType 37 38), (0, u "ended"), (0, u "Z"), (0, .methodref 9 40), (0, .nameAndType 41 42), (0, u "significant"), (0, u "(C)V"), (0, .fieldref 9 44), (0, .nameAndType 45 46), (0, u "places"), (0, u "J"), (0, .fieldref 9 48), (0, .nameAndType 41 46), (0, .fieldref 9 50), (0, .nameAndType 51 38), (0, u "negativeExponent"), (0, .fieldref 9 53), (0, .nameAndType 54 14), (0, u "exponentDigits"), (0, .long 10), (1, .fieldref 9 58), (0, .nameAndType 59 46), (0, u "exponent"), (0, .methodref 15 61), (0, .nameAndType 62 63), (0, u "length"), (0, u "()I"), (0, .methodref 15 65), (0, .nameAndType 66 67), (0, u "append"), (0, u "(C)Ljava/lang/StringBuilder;"), (0, .fieldref 9 69), (0, .nameAndType 70 46), (0, u "headSignificant"), (0, .fieldref 9 72), (0, .nameAndType 73 46), (0, u "headPlaces"), (0, .fieldref 9 75), (0, .nameAndType 76 14), (0, u "headExponentDigits"), (0, .methodref 9 78), (0, .nameAndType 79 80), (0, u "isDecimal"), (0, u "()Z"), (17, u "(I)V"), (24, u "MORE_DIGITS"), (0, u "Ljava/lang/String;"), (27, u "START"), (2, u "MINUS"), (1, u "ZERO"), (1, u "WHOLE"), (1, u "POINT"), (1, u "FRACTION"), (1, u "EXPONENT_MARK"), (1, u "EXPONENT_SIGN"), (1, u "EXPONENT"), (1, u "ENDED"), (1, u "LONGEST_EXPONENT"), (3, u "add"), (1, u "isPlain")] 27

def k2c0 : Code := { maxStack := 3, maxLocals := 2, code := prog_28_method_1_code, exceptionTable := #[], attributes := #[] }
def k2m0 : Method := { name := "<init>", desc := "(I)V", sig := { parameters := [.int], returnType := none }, accessFlags := 0, code := some k2c0 }
def k2c1 : Code := { maxStack := 5, maxLocals := 5, code := prog_28_method_2_code, exceptionTable := #[], attributes := #[] }
def k2m1 : Method := { name := "add", desc := "(C)Z", sig := { parameters := [.char], returnType := some .boolean }, accessFlags := 0, code := some k2c1 }
def k2c2 : Code := { maxStack := 2, maxLocals := 1, code := prog_28_method_3_code, exceptionTable := #[], attributes := #[] }
def k2m2 : Method := { name := "isDecimal", desc := "()Z", sig := { parameters := [], returnType := some .boolean }, accessFlags := 0, code := some k2c2 }
def k2c3 : Code := { maxStack := 2, maxLocals := 1, code := prog_28_method_4_code, exceptionTable := #[], attributes := #[] }
def k2m3 : Method := { name := "isPlain", desc := "()Z", sig := { parameters := [], returnType := some .boolean }, accessFlags := 0, code := some k2c3 }
def k2c4 : Code := { maxStack := 5, maxLocals := 2, code := prog_28_method_8_code, exceptionTable := #[], attributes := #[] }
def k2m4 : Method := { name := "significant", desc := "(C)V", sig := { parameters := [.char], returnType := none }, accessFlags := 2, code := some k2c4 }
/-- com/example/yuanterm/yuanterm/Decimals$Digits -/
def k2 : Class := { plain "com/example/yuanterm/yuanterm/Decimals$Digits" (some 0) with
  accessFlags := 48
  interfaces := #[]
  cf := some (fileOf pool2 9 #[.nestHost 1] #[{ accessFlags := 0, nameIndex := 7, descriptorIndex := 98, attributes := #[] }, { accessFlags := 0, nameIndex := 177, descriptorIndex := 34, attributes := #[] }, { accessFlags := 0, nameIndex := 79, descriptorIndex := 80, attributes := #[] }, { accessFlags := 0, nameIndex := 179, descriptorIndex := 80, attributes := #[] }, { accessFlags := 2, nameIndex := 41, descriptorIndex := 42, attributes := #[] }] 48 4 #[] #[{ accessFlags := 26, nameIndex := 152, descriptorIndex := 14, attributes := #[] }, { accessFlags := 26, nameIndex := 155, descriptorIndex := 14, attributes := #[] }, { accessFlags := 26, nameIndex := 157, descriptorIndex := 14, attributes := #[] }, { accessFlags := 26, nameIndex := 159, descriptorIndex := 14, attributes := #[] }, { accessFlags := 26, nameIndex := 161, descriptorIndex := 14, attributes := #[] }, { accessFlags := 26, nameIndex := 163, descriptorIndex := 14, attributes := #[] }, { accessFlags := 26, nameIndex := 165, descriptorIndex := 14, attributes := #[] }, { accessFlags := 26, nameIndex := 167, descriptorIndex := 14, attributes := #[] }, { accessFlags := 26, nameIndex := 169, descriptorIndex := 14, attributes := #[] }, { accessFlags := 26, nameIndex := 171, descriptorIndex := 14, attributes := #[] }, { accessFlags := 26, nameIndex := 173, descriptorIndex := 14, attributes := #[] }, { accessFlags := 26, nameIndex := 123, descriptorIndex := 124, attributes := #[] }, { accessFlags := 2, nameIndex := 13, descriptorIndex := 14, attributes := #[] }, { accessFlags := 2, nameIndex := 37, descriptorIndex := 38, attributes := #[] }, { accessFlags := 2, nameIndex := 41, descriptorIndex := 46, attributes := #[] }, { accessFlags := 2, nameIndex := 45, descriptorIndex := 46, attributes := #[] }, { accessFlags := 2, nameIndex := 51, descriptorIndex := 38, attributes := #[] }, { accessFlags := 2, nameIndex := 54, descriptorIndex := 14, attributes := #[] }, { accessFlags := 2, nameIndex := 59, descriptorIndex := 46, attributes := #[] }, { accessFlags := 18, nameIndex := 20, descriptorIndex := 21, attributes := #[] }, { accessFlags := 18, nameIndex := 30, descriptorIndex := 14, attributes := #[] }, { accessFlags := 18, nameIndex := 24, descriptorIndex := 21, attributes := #[] }, { accessFlags := 2, nameIndex := 27, descriptorIndex := 14, attributes := #[] }, { accessFlags := 2, nameIndex := 70, descriptorIndex := 46, attributes := #[] }, { accessFlags := 2, nameIndex := 73, descriptorIndex := 46, attributes := #[] }, { accessFlags := 2, nameIndex := 76, descriptorIndex := 14, attributes := #[] }])
  fields := #[{ name := "START", type := .int, accessFlags := 26, slot := 0, constantValue := 0 }, { name := "MINUS", type := .int, accessFlags := 26, slot := 1, constantValue := 0 }, { name := "ZERO", type := .int, accessFlags := 26, slot := 2, constantValue := 0 }, { name := "WHOLE", type := .int, accessFlags := 26, slot := 3, constantValue := 0 }, { name := "POINT", type := .int, accessFlags := 26, slot := 4, constantValue := 0 }, { name := "FRACTION", type := .int, accessFlags := 26, slot := 5, constantValue := 0 }, { name := "EXPONENT_MARK", type := .int, accessFlags := 26, slot := 6, constantValue := 0 }, { name := "EXPONENT_SIGN", type := .int, accessFlags := 26, slot := 7, constantValue := 0 }, { name := "EXPONENT", type := .int, accessFlags := 26, slot := 8, constantValue := 0 }, { name := "ENDED", type := .int, accessFlags := 26, slot := 9, constantValue := 0 }, { name := "LONGEST_EXPONENT", type := .int, accessFlags := 26, slot := 10, constantValue := 0 }, { name := "MORE_DIGITS", type := (.object "java/lang/String"), accessFlags := 26, slot := 11, constantValue := 0 }, { name := "state", type := .int, accessFlags := 2, slot := 0, constantValue := 0 }, { name := "ended", type := .boolean, accessFlags := 2, slot := 1, constantValue := 0 }, { name := "significant", type := .long, accessFlags := 2, slot := 2, constantValue := 0 }, { name := "places", type := .long, accessFlags := 2, slot := 3, constantValue := 0 }, { name := "negativeExponent", type := .boolean, accessFlags := 2, slot := 4, constantValue := 0 }, { name := "exponentDigits", type := .int, accessFlags := 2, slot := 5, constantValue := 0 }, { name := "exponent", type := .long, accessFlags := 2, slot := 6, constantValue := 0 }, { name := "unscaled", type := (.object "java/lang/StringBuilder"), accessFlags := 18, slot := 7, constantValue := 0 }, { name := "kept", type := .int, accessFlags := 18, slot := 8, constantValue := 0 }, { name := "head", type := (.object "java/lang/StringBuilder"), accessFlags := 18, slot := 9, constantValue := 0 }, { name := "headState", type := .int, accessFlags := 2, slot := 10, constantValue := 0 }, { name := "headSignificant", type := .long, accessFlags := 2, slot := 11, constantValue := 0 }, { name := "headPlaces", type := .long, accessFlags := 2, slot := 12, constantValue := 0 }, { name := "headExponentDigits", type := .int, accessFlags := 2, slot := 13, constantValue := 0 }]
  methods := #[k2m0, k2m1, k2m2, k2m3, k2m4]
  instanceTypes := #[.int, .boolean, .long, .long, .boolean, .int, .long, (.object "java/lang/StringBuilder"), .int, (.object "java/lang/StringBuilder"), .int, .long, .long, .int]
  staticTypes := #[.int, .int, .int, .int, .int, .int, .int, .int, .int, .int, .int, (.object "java/lang/String")]
  resolved := Array.replicate 207 none
  statics := none }

def pool3 : Array CpInfo := pool [(1, .class_ 2), (0, u "java/lang/Appendable"), (0, .class_ 4), (0, u "java/lang/Object")] 9

/-- java/lang/Appendable -/
def k3 : Class := { plain "java/lang/Appendable" (some 0) with
  accessFlags := 1537
  interfaces := #[]
  cf := some (fileOf pool3 1 #[] #[] 1537 3 #[] #[])
  fields := #[]
  methods := #[]
  instanceTypes := #[]
  staticTypes := #[]
  resolved := Array.replicate 14 none
  statics := none }

def pool4 : Array CpInfo := pool [(2, .class_ 4), (1, u "java/lang/CharSequence"), (42, .class_ 48), (0, u "java/lang/CharSequence$1CodePointIterator"), (10, .class_ 60), (0, u "java/lang/CharSequence$1CharIterator"), (5, .class_ 67), (0, u "java/lang/Object")] 63

/-- java/lang/CharSequence -/
def k4 : Class := { plain "java/lang/CharSequence" (some 0) with
  accessFlags := 1537
  interfaces := #[]
  cf := some (fileOf pool4 2 #[.nestMembers #[47, 59]] #[] 1537 66 #[] #[])
  fields := #[]
  methods := #[]
  instanceTypes := #[]
  staticTypes := #[]
  resolved := Array.replicate 131 none
  statics := none }

def pool5 : Array CpInfo := pool [(1, .class_ 2), (0, u "java/lang/String"), (0, .methodref 4 5), (0, .class_ 6), (0, .nameAndType 7 8), (0, u "java/lang/Object"), (0, u "<init>"), (0, u "()V"), (1, .class_ 12), (1, u "java/lang/AbstractStringBuilder"), (0, u "EMPTYVALUE"), (0, u "[B"), (0, .fieldref 10 16), (0, .nameAndType 17 14), (0, u "value"), (0, .fieldref 1 19), (0, .nameAndType 20 21), (0, u "COMPACT_STRINGS"), (0, u "Z"), (0, .fieldref 10 23), (0, .nameAndType 24 25), (0, u "coder"), (0, u "B"), (8, u "length"), (0, u "()I"), (9, u "append"), (2, .class_ 49), (0, u "java/lang/CharSequence"), (25, u "maybeLatin1"), (3, .fieldref 10 80), (0, .nameAndType 81 82), (0, u "count"), (0, u "I"), (0, .methodref 10 84), (0, .nameAndType 85 86), (0, u "isLatin1"), (0, u "()Z"), (1, .class_ 90), (1, u "java/lang/StringLatin1"), (9, .methodref 10 101), (0, .nameAndType 102 103), (0, u "ensureCapacityInternal"), (0, u "(I)V"), (87, .methodref 88 192), (0, .nameAndType 193 194), (0, u "canEncode"), (0, u "(C)Z"), (97, u "(C)Ljava/lang/AbstractStringBuilder;"), (151, .class_ 445), (0, u "java/lang/Appendable")] 163

def k5m0 : Method := { name := "<init>", desc := "()V", sig := { parameters := [], returnType := none }, accessFlags := 0, code := none }
def k5c1 : Code := { maxStack := 2, maxLocals := 2, code := jdk_68_method_2_code, exceptionTable := #[], attributes := #[] }
def k5m1 : Method := { name := "<init>", desc := "(I)V", sig := { parameters := [.int], returnType := none }, accessFlags := 0, code := some k5c1 }
def k5c2 : Code := { maxStack := 1, maxLocals := 1, code := jdk_68_method_6_code, exceptionTable := #[], attributes := #[] }
def k5m2 : Method := { name := "length", desc := "()I", sig := { parameters := [], returnType := some .int }, accessFlags := 1, code := some k5c2 }
def k5c3 : Code := { maxStack := 4, maxLocals := 3, code := jdk_68_method_9_code, exceptionTable := #[], attributes := #[] }
def k5m3 : Method := { name := "ensureCapacityInternal", desc := "(I)V", sig := { parameters := [.int], returnType := none }, accessFlags := 2, code := some k5c3 }
def k5c4 : Code := { maxStack := 5, maxLocals := 2, code := jdk_68_method_31_code, exceptionTable := #[], attributes := #[] }
def k5m4 : Method := { name := "append", desc := "(C)Ljava/lang/AbstractStringBuilder;", sig := { parameters := [.char], returnType := some (.object "java/lang/AbstractStringBuilder") }, accessFlags := 1, code := some k5c4 }
def k5c5 : Code := { maxStack := 1, maxLocals := 1, code := jdk_68_method_68_code, exceptionTable := #[], attributes := #[] }
def k5m5 : Method := { name := "isLatin1", desc := "()Z", sig := { parameters := [], returnType := some .boolean }, accessFlags := 16, code := some k5c5 }
/-- java/lang/AbstractStringBuilder -/
def k5 : Class := { plain "java/lang/AbstractStringBuilder" (some 0) with
  accessFlags := 1056
  interfaces := #[3, 4]
  cf := some (fileOf pool5 10 #[] #[{ accessFlags := 0, nameIndex := 7, descriptorIndex := 8, attributes := #[] }, { accessFlags := 0, nameIndex := 7, descriptorIndex := 103, attributes := #[] }, { accessFlags := 1, nameIndex := 34, descriptorIndex := 35, attributes := #[] }, { accessFlags := 2, nameIndex := 102, descriptorIndex := 103, attributes := #[] }, { accessFlags := 1, nameIndex := 45, descriptorIndex := 292, attributes := #[] }, { accessFlags := 16, nameIndex := 85, descriptorIndex := 86, attributes := #[] }] 1056 4 #[444, 48] #[{ accessFlags := 0, nameIndex := 17, descriptorIndex := 14, attributes := #[] }, { accessFlags := 0, nameIndex := 24, descriptorIndex := 25, attributes := #[] }, { accessFlags := 0, nameIndex := 75, descriptorIndex := 21, attributes := #[] }, { accessFlags := 0, nameIndex := 81, descriptorIndex := 82, attributes := #[] }, { accessFlags := 26, nameIndex := 13, descriptorIndex := 14, attributes := #[] }])
  fields := #[{ name := "value", type := (.array .byte), accessFlags := 0, slot := 0, constantValue := 0 }, { name := "coder", type := .byte, accessFlags := 0, slot := 1, constantValue := 0 }, { name := "maybeLatin1", type := .boolean, accessFlags := 0, slot := 2, constantValue := 0 }, { name := "count", type := .int, accessFlags := 0, slot := 3, constantValue := 0 }, { name := "EMPTYVALUE", type := (.array .byte), accessFlags := 26, slot := 0, constantValue := 0 }]
  methods := #[k5m0, k5m1, k5m2, k5m3, k5m4, k5m5]
  instanceTypes := #[(.array .byte), .byte, .boolean, .int]
  staticTypes := #[(.array .byte)]
  resolved := Array.replicate 609 none
  statics := none }

def pool6 : Array CpInfo := pool [(1, .class_ 2), (0, u "java/io/Serializable"), (0, .class_ 4), (0, u "java/lang/Object")] 2

/-- java/io/Serializable -/
def k6 : Class := { plain "java/io/Serializable" (some 0) with
  accessFlags := 1537
  interfaces := #[]
  cf := some (fileOf pool6 1 #[] #[] 1537 3 #[] #[])
  fields := #[]
  methods := #[]
  instanceTypes := #[]
  staticTypes := #[]
  resolved := Array.replicate 7 none
  statics := none }

def pool7 : Array CpInfo := pool [(1, .class_ 2), (0, u "java/lang/Comparable"), (0, .class_ 4), (0, u "java/lang/Object")] 7

/-- java/lang/Comparable -/
def k7 : Class := { plain "java/lang/Comparable" (some 0) with
  accessFlags := 1537
  interfaces := #[]
  cf := some (fileOf pool7 1 #[] #[] 1537 3 #[] #[])
  fields := #[]
  methods := #[]
  instanceTypes := #[]
  staticTypes := #[]
  resolved := Array.replicate 12 none
  statics := none }

def pool8 : Array CpInfo := pool [(1, .methodref 2 3), (0, .class_ 4), (0, .nameAndType 5 6), (0, u "java/lang/AbstractStringBuilder"), (0, u "<init>"), (0, u "(I)V"), (17, .class_ 26), (1, u "java/lang/StringBuilder"), (0, u "append"), (22, .methodref 2 51), (0, .nameAndType 27 52), (0, u "(C)Ljava/lang/AbstractStringBuilder;"), (92, u "()V"), (10, u "()I"), (129, u "(C)Ljava/lang/StringBuilder;"), (56, .methodref 2 344), (0, .nameAndType 345 156), (0, u "length"), (3, .class_ 350), (0, u "java/lang/Appendable"), (0, .class_ 352), (0, u "java/io/Serializable"), (0, .class_ 354), (0, u "java/lang/Comparable"), (0, .class_ 356), (0, u "java/lang/CharSequence"), (0, u "serialVersionUID"), (0, u "J")] 63

def k8c0 : Code := { maxStack := 2, maxLocals := 1, code := jdk_67_method_1_code, exceptionTable := #[], attributes := #[] }
def k8m0 : Method := { name := "<init>", desc := "()V", sig := { parameters := [], returnType := none }, accessFlags := 1, code := some k8c0 }
def k8c1 : Code := { maxStack := 2, maxLocals := 2, code := jdk_67_method_14_code, exceptionTable := #[], attributes := #[] }
def k8m1 : Method := { name := "append", desc := "(C)Ljava/lang/StringBuilder;", sig := { parameters := [.char], returnType := some (.object "java/lang/StringBuilder") }, accessFlags := 1, code := some k8c1 }
def k8c2 : Code := { maxStack := 1, maxLocals := 1, code := jdk_67_method_93_code, exceptionTable := #[], attributes := #[] }
def k8m2 : Method := { name := "length", desc := "()I", sig := { parameters := [], returnType := some .int }, accessFlags := 4161, code := some k8c2 }
/-- java/lang/StringBuilder -/
def k8 : Class := { plain "java/lang/StringBuilder" (some 5) with
  accessFlags := 49
  interfaces := #[3, 6, 7, 4]
  cf := some (fileOf pool8 24 #[] #[{ accessFlags := 1, nameIndex := 5, descriptorIndex := 145, attributes := #[] }, { accessFlags := 1, nameIndex := 27, descriptorIndex := 286, attributes := #[] }, { accessFlags := 4161, nameIndex := 345, descriptorIndex := 156, attributes := #[] }] 49 2 #[349, 351, 353, 355] #[{ accessFlags := 24, nameIndex := 357, descriptorIndex := 358, attributes := #[] }])
  fields := #[{ name := "serialVersionUID", type := .long, accessFlags := 24, slot := 0, constantValue := 0 }]
  methods := #[k8m0, k8m1, k8m2]
  instanceTypes := #[(.array .byte), .byte, .boolean, .int]
  staticTypes := #[.long]
  resolved := Array.replicate 422 none
  statics := none }

def pool9 : Array CpInfo := pool [(1, .class_ 2), (0, u "java/lang/constant/Constable"), (0, .class_ 4), (0, u "java/lang/Object")] 6

/-- java/lang/constant/Constable -/
def k9 : Class := { plain "java/lang/constant/Constable" (some 0) with
  accessFlags := 1537
  interfaces := #[]
  cf := some (fileOf pool9 1 #[] #[] 1537 3 #[] #[])
  fields := #[]
  methods := #[]
  instanceTypes := #[]
  staticTypes := #[]
  resolved := Array.replicate 11 none
  statics := none }

def pool10 : Array CpInfo := pool [(1, .class_ 2), (0, u "java/lang/constant/ConstantDesc"), (0, .class_ 4), (0, u "java/lang/Object")] 32

/-- java/lang/constant/ConstantDesc -/
def k10 : Class := { plain "java/lang/constant/ConstantDesc" (some 0) with
  accessFlags := 1537
  interfaces := #[]
  cf := some (fileOf pool10 1 #[] #[] 1537 3 #[] #[])
  fields := #[]
  methods := #[]
  instanceTypes := #[]
  staticTypes := #[]
  resolved := Array.replicate 37 none
  statics := none }

def pool11 : Array CpInfo := pool [(2, .class_ 4), (1, u "java/lang/Object"), (0, u "<init>"), (0, u "()V"), (2, .fieldref 10 11), (0, .class_ 12), (0, .nameAndType 13 14), (0, u "java/lang/String"), (0, u "value"), (0, u "[B"), (0, .fieldref 10 16), (0, .nameAndType 17 18), (0, u "coder"), (0, u "B"), (2, u "hash"), (0, u "I"), (2, u "hashIsZero"), (0, u "Z"), (11, .fieldref 10 39), (0, .nameAndType 40 26), (0, u "COMPACT_STRINGS"), (66, .class_ 109), (1, u "java/lang/StringLatin1"), (32, u "()Z"), (220, u "([BI)C"), (27, u "(II)V"), (35, u "(I)C"), (64, .methodref 10 493), (0, .nameAndType 494 142), (0, u "isLatin1"), (0, .methodref 107 496), (0, .nameAndType 497 363), (0, u "charAt"), (3, u "checkIndex"), (73, .class_ 576), (0, u "java/lang/CharSequence"), (22, u "CASE_INSENSITIVE_ORDER"), (0, u "Ljava/util/Comparator;"), (452, .fieldref 1054 1055), (0, .class_ 1056), (0, .nameAndType 1057 1058), (0, u "jdk/internal/util/Preconditions"), (0, u "SIOOBE_FORMATTER"), (0, u "Ljava/util/function/BiFunction;"), (0, .methodref 1054 1060), (0, .nameAndType 501 1061), (0, u "(IILjava/util/function/BiFunction;)I"), (39, u "serialPersistentFields"), (0, u "[Ljava/io/ObjectStreamField;"), (0, .class_ 1104), (0, u "java/lang/String$CaseInsensitiveComparator"), (1, .class_ 1107), (0, u "java/io/Serializable"), (0, .class_ 1109), (0, u "java/lang/Comparable"), (0, .class_ 1111), (0, u "java/lang/constant/Constable"), (0, .class_ 1113), (0, u "java/lang/constant/ConstantDesc"), (2, u "serialVersionUID"), (0, u "J"), (3, u "REPL"), (0, u "C"), (2, u "LATIN1"), (1, u "UTF16")] 323

def k11m0 : Method := { name := "<init>", desc := "()V", sig := { parameters := [], returnType := none }, accessFlags := 1, code := none }
def k11c1 : Code := { maxStack := 2, maxLocals := 2, code := jdk_42_method_56_code, exceptionTable := #[], attributes := #[] }
def k11m1 : Method := { name := "charAt", desc := "(I)C", sig := { parameters := [.int], returnType := some .char }, accessFlags := 1, code := some k11c1 }
def k11c2 : Code := { maxStack := 1, maxLocals := 1, code := jdk_42_method_154_code, exceptionTable := #[], attributes := #[] }
def k11m2 : Method := { name := "isLatin1", desc := "()Z", sig := { parameters := [], returnType := some .boolean }, accessFlags := 0, code := some k11c2 }
def k11c3 : Code := { maxStack := 3, maxLocals := 2, code := jdk_42_method_155_code, exceptionTable := #[], attributes := #[] }
def k11m3 : Method := { name := "checkIndex", desc := "(II)V", sig := { parameters := [.int, .int], returnType := none }, accessFlags := 8, code := some k11c3 }
/-- java/lang/String -/
def k11 : Class := { plain "java/lang/String" (some 0) with
  accessFlags := 49
  interfaces := #[6, 7, 4, 9, 10]
  cf := some (fileOf pool11 10 #[.nestMembers #[1103]] #[{ accessFlags := 1, nameIndex := 5, descriptorIndex := 6, attributes := #[] }, { accessFlags := 1, nameIndex := 497, descriptorIndex := 427, attributes := #[] }, { accessFlags := 0, nameIndex := 494, descriptorIndex := 142, attributes := #[] }, { accessFlags := 8, nameIndex := 501, descriptorIndex := 391, attributes := #[] }] 49 2 #[1106, 1108, 575, 1110, 1112] #[{ accessFlags := 18, nameIndex := 13, descriptorIndex := 14, attributes := #[] }, { accessFlags := 18, nameIndex := 17, descriptorIndex := 18, attributes := #[] }, { accessFlags := 2, nameIndex := 21, descriptorIndex := 22, attributes := #[] }, { accessFlags := 2, nameIndex := 25, descriptorIndex := 26, attributes := #[] }, { accessFlags := 26, nameIndex := 1116, descriptorIndex := 1117, attributes := #[] }, { accessFlags := 24, nameIndex := 40, descriptorIndex := 26, attributes := #[] }, { accessFlags := 26, nameIndex := 1101, descriptorIndex := 1102, attributes := #[] }, { accessFlags := 26, nameIndex := 1121, descriptorIndex := 1122, attributes := #[] }, { accessFlags := 25, nameIndex := 599, descriptorIndex := 600, attributes := #[] }, { accessFlags := 24, nameIndex := 1125, descriptorIndex := 18, attributes := #[] }, { accessFlags := 24, nameIndex := 1127, descriptorIndex := 18, attributes := #[] }])
  fields := #[{ name := "value", type := (.array .byte), accessFlags := 18, slot := 0, constantValue := 0 }, { name := "coder", type := .byte, accessFlags := 18, slot := 1, constantValue := 0 }, { name := "hash", type := .int, accessFlags := 2, slot := 2, constantValue := 0 }, { name := "hashIsZero", type := .boolean, accessFlags := 2, slot := 3, constantValue := 0 }, { name := "serialVersionUID", type := .long, accessFlags := 26, slot := 0, constantValue := 0 }, { name := "COMPACT_STRINGS", type := .boolean, accessFlags := 24, slot := 1, constantValue := 0 }, { name := "serialPersistentFields", type := (.array (.object "java/io/ObjectStreamField")), accessFlags := 26, slot := 2, constantValue := 0 }, { name := "REPL", type := .char, accessFlags := 26, slot := 3, constantValue := 0 }, { name := "CASE_INSENSITIVE_ORDER", type := (.object "java/util/Comparator"), accessFlags := 25, slot := 4, constantValue := 0 }, { name := "LATIN1", type := .byte, accessFlags := 24, slot := 5, constantValue := 0 }, { name := "UTF16", type := .byte, accessFlags := 24, slot := 6, constantValue := 0 }]
  methods := #[k11m0, k11m1, k11m2, k11m3]
  instanceTypes := #[(.array .byte), .byte, .int, .boolean]
  staticTypes := #[.long, .boolean, (.array (.object "java/io/ObjectStreamField")), .char, (.object "java/util/Comparator"), .byte, .byte]
  resolved := Array.replicate 1451 none
  statics := some 0 }

def pool12 : Array CpInfo := pool [(1, .class_ 2), (0, u "com/example/yuanterm/yuanterm/Decimals"), (1, .class_ 6), (1, u "java/lang/Object"), (0, u "<init>"), (0, u "()V"), (9, .class_ 20), (1, u "com/example/yuanterm/yuanterm/Decimals$Digits"), (62, u "(C)Z"), (8, u "DIGITS"), (0, u "I"), (2, u "TOO_MANY_DIGITS"), (0, u "Ljava/lang/String;"), (12, u "isDigit")] 19

def k12m0 : Method := { name := "<init>", desc := "()V", sig := { parameters := [], returnType := none }, accessFlags := 2, code := none }
def k12c1 : Code := { maxStack := 2, maxLocals := 1, code := prog_27_method_9_code, exceptionTable := #[], attributes := #[] }
def k12m1 : Method := { name := "isDigit", desc := "(C)Z", sig := { parameters := [.char], returnType := some .boolean }, accessFlags := 10, code := some k12c1 }
/-- com/example/yuanterm/yuanterm/Decimals -/
def k12 : Class := { plain "com/example/yuanterm/yuanterm/Decimals" (some 0) with
  accessFlags := 48
  interfaces := #[]
  cf := some (fileOf pool12 1 #[.nestMembers #[18]] #[{ accessFlags := 2, nameIndex := 7, descriptorIndex := 8, attributes := #[] }, { accessFlags := 10, nameIndex := 110, descriptorIndex := 83, attributes := #[] }] 48 4 #[] #[{ accessFlags := 26, nameIndex := 92, descriptorIndex := 93, attributes := #[] }, { accessFlags := 24, nameIndex := 96, descriptorIndex := 97, attributes := #[] }])
  fields := #[{ name := "DIGITS", type := .int, accessFlags := 26, slot := 0, constantValue := 0 }, { name := "TOO_MANY_DIGITS", type := (.object "java/lang/String"), accessFlags := 24, slot := 1, constantValue := 0 }]
  methods := #[k12m0, k12m1]
  instanceTypes := #[]
  staticTypes := #[.int, (.object "java/lang/String")]
  resolved := Array.replicate 130 none
  statics := none }

def pool13 : Array CpInfo := pool [(1, .class_ 2), (0, u "java/lang/String"), (1, .class_ 6), (1, u "java/lang/Object"), (0, u "<init>"), (0, u "()V"), (0, .methodref 1 10), (0, .nameAndType 11 12), (0, u "checkIndex"), (0, u "(II)V"), (1, .class_ 16), (1, u "java/lang/StringLatin1"), (36, u "([BI)C"), (36, u "canEncode"), (14, u "(C)Z"), (15, u "$assertionsDisabled"), (0, u "Z"), (98, .class_ 223), (1, u "java/lang/StringLatin1$LinesSpliterator"), (28, u "charAt"), (137, .class_ 391), (0, u "java/lang/StringLatin1$CharsSpliterator")] 3

def k13m0 : Method := { name := "<init>", desc := "()V", sig := { parameters := [], returnType := none }, accessFlags := 0, code := none }
def k13c1 : Code := { maxStack := 2, maxLocals := 2, code := jdk_43_method_2_code, exceptionTable := #[], attributes := #[] }
def k13m1 : Method := { name := "charAt", desc := "([BI)C", sig := { parameters := [(.array .byte), .int], returnType := some .char }, accessFlags := 9, code := some k13c1 }
def k13c2 : Code := { maxStack := 2, maxLocals := 1, code := jdk_43_method_3_code, exceptionTable := #[], attributes := #[] }
def k13m2 : Method := { name := "canEncode", desc := "(C)Z", sig := { parameters := [.char], returnType := some .boolean }, accessFlags := 9, code := some k13c2 }
/-- java/lang/StringLatin1 -/
def k13 : Class := { plain "java/lang/StringLatin1" (some 0) with
  accessFlags := 48
  interfaces := #[]
  cf := some (fileOf pool13 14 #[.nestMembers #[390, 221]] #[{ accessFlags := 0, nameIndex := 7, descriptorIndex := 8, attributes := #[] }, { accessFlags := 9, nameIndex := 252, descriptorIndex := 53, attributes := #[] }, { accessFlags := 9, nameIndex := 90, descriptorIndex := 105, attributes := #[] }] 48 4 #[] #[{ accessFlags := 4120, nameIndex := 121, descriptorIndex := 122, attributes := #[] }])
  fields := #[{ name := "$assertionsDisabled", type := .boolean, accessFlags := 4120, slot := 0, constantValue := 0 }]
  methods := #[k13m0, k13m1, k13m2]
  instanceTypes := #[]
  staticTypes := #[.boolean]
  resolved := Array.replicate 395 none
  statics := none }

def pool14 : Array CpInfo := pool [(2, .class_ 4), (1, u "java/lang/Object"), (0, u "<init>"), (0, u "()V"), (17, .class_ 26), (1, u "jdk/internal/util/Preconditions"), (6, u "checkIndex"), (21, .class_ 56), (0, u "jdk/internal/util/Preconditions$4"), (57, .class_ 115), (0, u "jdk/internal/util/Preconditions$1"), (7, u "SIOOBE_FORMATTER"), (0, u "Ljava/util/function/BiFunction;"), (0, .class_ 126), (0, u "jdk/internal/util/Preconditions$2"), (3, u "AIOOBE_FORMATTER"), (0, .class_ 132), (0, u "jdk/internal/util/Preconditions$3"), (3, u "IOOBE_FORMATTER"), (41, u "(IILjava/util/function/BiFunction;)I")] 15

def k14m0 : Method := { name := "<init>", desc := "()V", sig := { parameters := [], returnType := none }, accessFlags := 1, code := none }
def k14c1 : Code := { maxStack := 3, maxLocals := 3, code := jdk_41_method_11_code, exceptionTable := #[], attributes := #[] }
def k14m1 : Method := { name := "checkIndex", desc := "(IILjava/util/function/BiFunction;)I", sig := { parameters := [.int, .int, (.object "java/util/function/BiFunction")], returnType := some .int }, accessFlags := 9, code := some k14c1 }
/-- jdk/internal/util/Preconditions -/
def k14 : Class := { plain "jdk/internal/util/Preconditions" (some 0) with
  accessFlags := 33
  interfaces := #[]
  cf := some (fileOf pool14 24 #[.nestMembers #[55, 131, 125, 114]] #[{ accessFlags := 1, nameIndex := 5, descriptorIndex := 6, attributes := #[] }, { accessFlags := 9, nameIndex := 33, descriptorIndex := 178, attributes := #[] }] 33 2 #[] #[{ accessFlags := 25, nameIndex := 123, descriptorIndex := 124, attributes := #[] }, { accessFlags := 25, nameIndex := 130, descriptorIndex := 124, attributes := #[] }, { accessFlags := 25, nameIndex := 136, descriptorIndex := 124, attributes := #[] }])
  fields := #[{ name := "SIOOBE_FORMATTER", type := (.object "java/util/function/BiFunction"), accessFlags := 25, slot := 0, constantValue := 0 }, { name := "AIOOBE_FORMATTER", type := (.object "java/util/function/BiFunction"), accessFlags := 25, slot := 1, constantValue := 0 }, { name := "IOOBE_FORMATTER", type := (.object "java/util/function/BiFunction"), accessFlags := 25, slot := 2, constantValue := 0 }]
  methods := #[k14m0, k14m1]
  instanceTypes := #[]
  staticTypes := #[(.object "java/util/function/BiFunction"), (.object "java/util/function/BiFunction"), (.object "java/util/function/BiFunction")]
  resolved := Array.replicate 194 none
  statics := some 1 }

def pool15 : Array CpInfo := pool [(9, u "<init>"), (6, .class_ 18), (1, u "java/lang/Object"), (0, u "()V"), (1, .class_ 23), (1, u "jdk/internal/util/ArraysSupport"), (0, u "LOG2_ARRAY_LONG_INDEX_SCALE"), (0, u "I"), (2, u "U"), (0, u "Ljdk/internal/misc/Unsafe;"), (8, u "BIG_ENDIAN"), (0, u "Z"), (8, u "LOG2_BYTE_BIT_SIZE"), (4, u "LOG2_ARRAY_INT_INDEX_SCALE"), (54, u "JLA"), (0, u "Ljdk/internal/access/JavaLangAccess;"), (11, u "LOG2_ARRAY_BOOLEAN_INDEX_SCALE"), (9, u "LOG2_ARRAY_BYTE_INDEX_SCALE"), (5, u "LOG2_ARRAY_CHAR_INDEX_SCALE"), (5, u "LOG2_ARRAY_SHORT_INDEX_SCALE"), (18, u "LOG2_ARRAY_FLOAT_INDEX_SCALE"), (24, u "LOG2_ARRAY_DOUBLE_INDEX_SCALE"), (89, u "T_BOOLEAN"), (2, u "T_CHAR"), (1, u "T_FLOAT"), (1, u "T_DOUBLE"), (1, u "T_BYTE"), (1, u "T_SHORT"), (1, u "T_INT"), (1, u "T_LONG"), (1, u "SOFT_MAX_ARRAY_LENGTH")] 83

def k15m0 : Method := { name := "<init>", desc := "()V", sig := { parameters := [], returnType := none }, accessFlags := 2, code := none }
/-- jdk/internal/util/ArraysSupport -/
def k15 : Class := { plain "jdk/internal/util/ArraysSupport" (some 0) with
  accessFlags := 33
  interfaces := #[]
  cf := some (fileOf pool15 21 #[] #[{ accessFlags := 2, nameIndex := 9, descriptorIndex := 19, attributes := #[] }] 33 16 #[] #[{ accessFlags := 24, nameIndex := 28, descriptorIndex := 29, attributes := #[] }, { accessFlags := 26, nameIndex := 38, descriptorIndex := 39, attributes := #[] }, { accessFlags := 25, nameIndex := 121, descriptorIndex := 25, attributes := #[] }, { accessFlags := 25, nameIndex := 131, descriptorIndex := 25, attributes := #[] }, { accessFlags := 25, nameIndex := 137, descriptorIndex := 25, attributes := #[] }, { accessFlags := 25, nameIndex := 143, descriptorIndex := 25, attributes := #[] }, { accessFlags := 25, nameIndex := 53, descriptorIndex := 25, attributes := #[] }, { accessFlags := 25, nameIndex := 24, descriptorIndex := 25, attributes := #[] }, { accessFlags := 25, nameIndex := 162, descriptorIndex := 25, attributes := #[] }, { accessFlags := 25, nameIndex := 187, descriptorIndex := 25, attributes := #[] }, { accessFlags := 26, nameIndex := 48, descriptorIndex := 25, attributes := #[] }, { accessFlags := 25, nameIndex := 277, descriptorIndex := 25, attributes := #[] }, { accessFlags := 25, nameIndex := 280, descriptorIndex := 25, attributes := #[] }, { accessFlags := 25, nameIndex := 282, descriptorIndex := 25, attributes := #[] }, { accessFlags := 25, nameIndex := 284, descriptorIndex := 25, attributes := #[] }, { accessFlags := 25, nameIndex := 286, descriptorIndex := 25, attributes := #[] }, { accessFlags := 25, nameIndex := 288, descriptorIndex := 25, attributes := #[] }, { accessFlags := 25, nameIndex := 290, descriptorIndex := 25, attributes := #[] }, { accessFlags := 25, nameIndex := 292, descriptorIndex := 25, attributes := #[] }, { accessFlags := 26, nameIndex := 108, descriptorIndex := 109, attributes := #[] }, { accessFlags := 25, nameIndex := 294, descriptorIndex := 25, attributes := #[] }])
  fields := #[{ name := "U", type := (.object "jdk/internal/misc/Unsafe"), accessFlags := 24, slot := 0, constantValue := 0 }, { name := "BIG_ENDIAN", type := .boolean, accessFlags := 26, slot := 1, constantValue := 0 }, { name := "LOG2_ARRAY_BOOLEAN_INDEX_SCALE", type := .int, accessFlags := 25, slot := 2, constantValue := 0 }, { name := "LOG2_ARRAY_BYTE_INDEX_SCALE", type := .int, accessFlags := 25, slot := 3, constantValue := 0 }, { name := "LOG2_ARRAY_CHAR_INDEX_SCALE", type := .int, accessFlags := 25, slot := 4, constantValue := 0 }, { name := "LOG2_ARRAY_SHORT_INDEX_SCALE", type := .int, accessFlags := 25, slot := 5, constantValue := 0 }, { name := "LOG2_ARRAY_INT_INDEX_SCALE", type := .int, accessFlags := 25, slot := 6, constantValue := 0 }, { name := "LOG2_ARRAY_LONG_INDEX_SCALE", type := .int, accessFlags := 25, slot := 7, constantValue := 0 }, { name := "LOG2_ARRAY_FLOAT_INDEX_SCALE", type := .int, accessFlags := 25, slot := 8, constantValue := 0 }, { name := "LOG2_ARRAY_DOUBLE_INDEX_SCALE", type := .int, accessFlags := 25, slot := 9, constantValue := 0 }, { name := "LOG2_BYTE_BIT_SIZE", type := .int, accessFlags := 26, slot := 10, constantValue := 0 }, { name := "T_BOOLEAN", type := .int, accessFlags := 25, slot := 11, constantValue := 0 }, { name := "T_CHAR", type := .int, accessFlags := 25, slot := 12, constantValue := 0 }, { name := "T_FLOAT", type := .int, accessFlags := 25, slot := 13, constantValue := 0 }, { name := "T_DOUBLE", type := .int, accessFlags := 25, slot := 14, constantValue := 0 }, { name := "T_BYTE", type := .int, accessFlags := 25, slot := 15, constantValue := 0 }, { name := "T_SHORT", type := .int, accessFlags := 25, slot := 16, constantValue := 0 }, { name := "T_INT", type := .int, accessFlags := 25, slot := 17, constantValue := 0 }, { name := "T_LONG", type := .int, accessFlags := 25, slot := 18, constantValue := 0 }, { name := "JLA", type := (.object "jdk/internal/access/JavaLangAccess"), accessFlags := 26, slot := 19, constantValue := 0 }, { name := "SOFT_MAX_ARRAY_LENGTH", type := .int, accessFlags := 25, slot := 20, constantValue := 0 }]
  methods := #[k15m0]
  instanceTypes := #[]
  staticTypes := #[(.object "jdk/internal/misc/Unsafe"), .boolean, .int, .int, .int, .int, .int, .int, .int, .int, .int, .int, .int, .int, .int, .int, .int, .int, .int, (.object "jdk/internal/access/JavaLangAccess"), .int]
  resolved := Array.replicate 378 none
  statics := none }

def pool16 : Array CpInfo := pool [(1, u "java/lang/Cloneable"), (0, .class_ 1), (0, u "java/lang/Object"), (0, .class_ 3)] 3

/-- java/lang/Cloneable -/
def k16 : Class := { plain "java/lang/Cloneable" (some 0) with
  accessFlags := 1537
  interfaces := #[]
  cf := some (fileOf pool16 2 #[] #[] 1537 4 #[] #[])
  fields := #[]
  methods := #[]
  instanceTypes := #[]
  staticTypes := #[]
  resolved := Array.replicate 8 none
  statics := none }

/-- the primitive byte -/
def k17 : Class := { plain "byte" none with kind := .primitive 'B', accessFlags := 0x411 }
/-- [B -/
def k18 : Class := { plain "[B" (some 0) with kind := .array 17 .byte, interfaces := #[16, 6], accessFlags := 1041 }

/-- the primitive char -/
def k19 : Class := { plain "char" none with kind := .primitive 'C', accessFlags := 0x411 }
/-- [C -/
def k20 : Class := { plain "[C" (some 0) with kind := .array 19 .char, interfaces := #[16, 6], accessFlags := 1041 }

/-- the primitive int -/
def k21 : Class := { plain "int" none with kind := .primitive 'I', accessFlags := 0x411 }
/-- [I -/
def k22 : Class := { plain "[I" (some 0) with kind := .array 21 .int, interfaces := #[16, 6], accessFlags := 1041 }

def heap : Heap := #[{ cls := 11, slots := #[.long 0, .int 1, .null, .int 0, .null, .int 0, .int 0], vm := .statics 11 },
  { cls := 14, slots := #[.null, .null, .null], vm := .statics 14 }]
def classes : Array Class := #[k0, k1, k2, k3, k4, k5, k6, k7, k8, k9, k10, k11, k12, k13, k14, k15, k16, k17, k18, k19, k20, k21, k22]
def interned : List (Array UInt16 × Addr) := []
def slotsUsed : Nat := 10
def theMethod : MethodId := ⟨1, 6⟩
def args0 : Array Value := #[.int 5, .int 5, .int 5, .int 5, .int 5, .int 5]
def aboutOver (below : List Frame) : State where
  vm := { classes := classes, interned := interned.toArray }
  heap := heap
  slotsUsed := slotsUsed
  threads := #[{ frames := .invoking theMethod args0 :: below }]
def below0 : List Frame := [.native { method := ⟨0, 0⟩, args := #[] }]
def about1 : State := aboutOver below0
def p0 : Program := .bare "" "" ""
def e0 : Env := launch0.env 0 0 0
theorem w_frames : about1.frames = Frame.invoking theMethod args0 :: below0 := rfl
set_option maxRecDepth 65536 in
theorem w_args : argsFit about1.vm theMethod args0 = true := by decide +kernel
set_option maxRecDepth 65536 in
theorem w_heap : heapFits about1 = true := by decide +kernel
set_option maxRecDepth 65536 in
theorem w_runnable : about1.curStatus? = some .runnable := by decide +kernel
set_option maxRecDepth 65536 in
theorem w_alone : about1.alone = true := by decide +kernel
set_option maxRecDepth 65536 in
theorem w_named : about1.methodNamed? x = some theMethod := by decide +kernel
set_option maxRecDepth 65536 in
theorem w_hears : about1.hears theMethod below0 = true := by decide +kernel
set_option maxRecDepth 65536 in
theorem w_ripe : about1.ripe theMethod args0 below0 = true := by decide +kernel
theorem w_running : about1.status = .running := rfl
set_option maxRecDepth 65536 in
theorem w_room : about1.hasRoom e0.platform room_1 = true :=
  launch0.hasRoom_least _ room_1 (by decide +kernel) (by decide +kernel) (by decide +kernel) (by decide +kernel) (by decide +kernel) (by decide +kernel)
theorem allAtoms_all (ts : List Jvm.Cond) (a : Array Jvm.Value) (st : Jvm.State) : (allAtoms ts).before a st = ts.all (fun c => c.before a st) := by
  induction ts with
  | nil => rfl
  | cons c t ih =>
    show (Jvm.Cond.and c (allAtoms t)).before a st = _
    rw [Jvm.Cond.before_and, ih, List.all_cons]
def words1 : List Jvm.Cond := Jvm.Cond.code x code maxLocals ret :: tables_1
/-- a 'code' word, met by the world's own term for the bytes: nothing is compared byte by byte -/
theorem code_word {y : MethodName} {bytes : ByteArray} {mx : Nat} {rt : Option FieldType} {a : Array Value} {s : State} {m : MethodId} {meth : Method} {c : Code} (h1 : s.methodNamed? y = some m) (h2 : s.vm.method? m = some meth) (h3 : meth.code = some c) (h4 : c.code = bytes)
    (h5 : (c.maxLocals == mx && c.exceptionTable.isEmpty && decide (c.maxStack ≤ mostOperands) && decide (meth.sig.returnType = rt) && !meth.locks && decide (parseMethodDescriptor y.desc = some meth.sig)) = true) : (Jvm.Cond.code y bytes mx rt).before a s = true := by
  simp only [Bool.and_eq_true, beq_iff_eq, Bool.not_eq_true', decide_eq_true_eq] at h5
  obtain ⟨⟨⟨⟨⟨g1, g2⟩, g3⟩, g4⟩, g5⟩, g6⟩ := h5
  simp [Cond.before, Cond.holds, Cond.value, h1, h2, h3, h4, g1, g2, g3, g4, g5, g6]
def isCode : Jvm.Cond → Bool
  | .code _ _ _ _ => true
  | _ => false
theorem all_split {L : List Jvm.Cond} {P : Jvm.Cond → Bool} (h1 : L.all (fun c => isCode c || P c) = true) (h2 : ∀ c ∈ L.filter isCode, P c = true) : L.all P = true := by
  refine List.all_eq_true.mpr fun c hc => ?_
  have h := List.all_eq_true.mp h1 c hc
  rcases Bool.eq_false_or_eq_true (isCode c) with hi | hi
  · exact h2 c (List.mem_filter.mpr ⟨hc, hi⟩)
  · simpa [hi] using h
set_option maxRecDepth 65536 in
theorem w_c0 : (Jvm.Cond.code x code maxLocals ret).before args0 about1 = true := code_word (m := ⟨1, 6⟩) (meth := k1m6) (c := k1c6) (by decide +kernel) rfl rfl rfl (by decide +kernel)
set_option maxRecDepth 65536 in
theorem w_c1 : (Jvm.Cond.code ({ cls := "com/example/yuanterm/yuanterm/DigitsIsPlainPinLaw", name := "pick", desc := "(I)C" } : Jvm.MethodName) method_2_code (2 : Nat) (Option.some Jvm.ClassFile.FieldType.char)).before args0 about1 = true := code_word (m := ⟨1, 1⟩) (meth := k1m1) (c := k1c1) (by decide +kernel) rfl rfl rfl (by decide +kernel)
set_option maxRecDepth 65536 in
theorem w_c2 : (Jvm.Cond.code ({ cls := "com/example/yuanterm/yuanterm/Decimals$Digits", name := "<init>", desc := "(I)V" } : Jvm.MethodName) prog_28_method_1_code (2 : Nat) (Option.none : Option Jvm.ClassFile.FieldType)).before args0 about1 = true := code_word (m := ⟨2, 0⟩) (meth := k2m0) (c := k2c0) (by decide +kernel) rfl rfl rfl (by decide +kernel)
set_option maxRecDepth 65536 in
theorem w_c3 : (Jvm.Cond.code ({ cls := "java/lang/Object", name := "<init>", desc := "()V" } : Jvm.MethodName) object_method_1_code (1 : Nat) (Option.none : Option Jvm.ClassFile.FieldType)).before args0 about1 = true := code_word (m := ⟨0, 0⟩) (meth := k0m0) (c := k0c0) (by decide +kernel) rfl rfl rfl (by decide +kernel)
set_option maxRecDepth 65536 in
theorem w_c4 : (Jvm.Cond.code ({ cls := "java/lang/StringBuilder", name := "<init>", desc := "()V" } : Jvm.MethodName) jdk_67_method_1_code (1 : Nat) (Option.none : Option Jvm.ClassFile.FieldType)).before args0 about1 = true := code_word (m := ⟨8, 0⟩) (meth := k8m0) (c := k8c0) (by decide +kernel) rfl rfl rfl (by decide +kernel)
set_option maxRecDepth 65536 in
theorem w_c5 : (Jvm.Cond.code ({ cls := "java/lang/AbstractStringBuilder", name := "<init>", desc := "(I)V" } : Jvm.MethodName) jdk_68_method_2_code (2 : Nat) (Option.none : Option Jvm.ClassFile.FieldType)).before args0 about1 = true := code_word (m := ⟨5, 1⟩) (meth := k5m1) (c := k5c1) (by decide +kernel) rfl rfl rfl (by decide +kernel)
set_option maxRecDepth 65536 in
theorem w_c6 : (Jvm.Cond.code ({ cls := "com/example/yuanterm/yuanterm/Decimals$Digits", name := "isPlain", desc := "()Z" } : Jvm.MethodName) prog_28_method_4_code (1 : Nat) (Option.some Jvm.ClassFile.FieldType.boolean)).before args0 about1 = true := code_word (m := ⟨2, 3⟩) (meth := k2m3) (c := k2c3) (by decide +kernel) rfl rfl rfl (by decide +kernel)
set_option maxRecDepth 65536 in
theorem w_c7 : (Jvm.Cond.code ({ cls := "com/example/yuanterm/yuanterm/Decimals$Digits", name := "isDecimal", desc := "()Z" } : Jvm.MethodName) prog_28_method_3_code (1 : Nat) (Option.some Jvm.ClassFile.FieldType.boolean)).before args0 about1 = true := code_word (m := ⟨2, 2⟩) (meth := k2m2) (c := k2c2) (by decide +kernel) rfl rfl rfl (by decide +kernel)
set_option maxRecDepth 65536 in
theorem w_c8 : (Jvm.Cond.code ({ cls := "com/example/yuanterm/yuanterm/DigitsIsPlainPinLaw", name := "badAt", desc := "([CIII)I" } : Jvm.MethodName) method_4_code (4 : Nat) (Option.some Jvm.ClassFile.FieldType.int)).before args0 about1 = true := code_word (m := ⟨1, 3⟩) (meth := k1m3) (c := k1c3) (by decide +kernel) rfl rfl rfl (by decide +kernel)
set_option maxRecDepth 65536 in
theorem w_c9 : (Jvm.Cond.code ({ cls := "com/example/yuanterm/yuanterm/DigitsIsPlainPinLaw", name := "dotAt", desc := "([CII)I" } : Jvm.MethodName) method_5_code (3 : Nat) (Option.some Jvm.ClassFile.FieldType.int)).before args0 about1 = true := code_word (m := ⟨1, 4⟩) (meth := k1m4) (c := k1c4) (by decide +kernel) rfl rfl rfl (by decide +kernel)
set_option maxRecDepth 65536 in
theorem w_c10 : (Jvm.Cond.code ({ cls := "com/example/yuanterm/yuanterm/DigitsIsPlainPinLaw", name := "firstDot", desc := "([CI)I" } : Jvm.MethodName) method_6_code (2 : Nat) (Option.some Jvm.ClassFile.FieldType.int)).before args0 about1 = true := code_word (m := ⟨1, 5⟩) (meth := k1m5) (c := k1c5) (by decide +kernel) rfl rfl rfl (by decide +kernel)
set_option maxRecDepth 65536 in
theorem w_c11 : (Jvm.Cond.code ({ cls := "com/example/yuanterm/yuanterm/Decimals$Digits", name := "add", desc := "(C)Z" } : Jvm.MethodName) prog_28_method_2_code (5 : Nat) (Option.some Jvm.ClassFile.FieldType.boolean)).before args0 about1 = true := code_word (m := ⟨2, 1⟩) (meth := k2m1) (c := k2c1) (by decide +kernel) rfl rfl rfl (by decide +kernel)
set_option maxRecDepth 65536 in
theorem w_c12 : (Jvm.Cond.code ({ cls := "com/example/yuanterm/yuanterm/Decimals", name := "isDigit", desc := "(C)Z" } : Jvm.MethodName) prog_27_method_9_code (1 : Nat) (Option.some Jvm.ClassFile.FieldType.boolean)).before args0 about1 = true := code_word (m := ⟨12, 1⟩) (meth := k12m1) (c := k12c1) (by decide +kernel) rfl rfl rfl (by decide +kernel)
set_option maxRecDepth 65536 in
theorem w_c13 : (Jvm.Cond.code ({ cls := "com/example/yuanterm/yuanterm/DigitsIsPlainPinLaw", name := "isDigit", desc := "(C)Z" } : Jvm.MethodName) method_3_code (1 : Nat) (Option.some Jvm.ClassFile.FieldType.boolean)).before args0 about1 = true := code_word (m := ⟨1, 2⟩) (meth := k1m2) (c := k1c2) (by decide +kernel) rfl rfl rfl (by decide +kernel)
set_option maxRecDepth 65536 in
theorem w_c14 : (Jvm.Cond.code ({ cls := "java/lang/String", name := "charAt", desc := "(I)C" } : Jvm.MethodName) jdk_42_method_56_code (2 : Nat) (Option.some Jvm.ClassFile.FieldType.char)).before args0 about1 = true := code_word (m := ⟨11, 1⟩) (meth := k11m1) (c := k11c1) (by decide +kernel) rfl rfl rfl (by decide +kernel)
set_option maxRecDepth 65536 in
theorem w_c15 : (Jvm.Cond.code ({ cls := "java/lang/String", name := "isLatin1", desc := "()Z" } : Jvm.MethodName) jdk_42_method_154_code (1 : Nat) (Option.some Jvm.ClassFile.FieldType.boolean)).before args0 about1 = true := code_word (m := ⟨11, 2⟩) (meth := k11m2) (c := k11c2) (by decide +kernel) rfl rfl rfl (by decide +kernel)
set_option maxRecDepth 65536 in
theorem w_c16 : (Jvm.Cond.code ({ cls := "java/lang/StringLatin1", name := "charAt", desc := "([BI)C" } : Jvm.MethodName) jdk_43_method_2_code (2 : Nat) (Option.some Jvm.ClassFile.FieldType.char)).before args0 about1 = true := code_word (m := ⟨13, 1⟩) (meth := k13m1) (c := k13c1) (by decide +kernel) rfl rfl rfl (by decide +kernel)
set_option maxRecDepth 65536 in
theorem w_c17 : (Jvm.Cond.code ({ cls := "java/lang/String", name := "checkIndex", desc := "(II)V" } : Jvm.MethodName) jdk_42_method_155_code (2 : Nat) (Option.none : Option Jvm.ClassFile.FieldType)).before args0 about1 = true := code_word (m := ⟨11, 3⟩) (meth := k11m3) (c := k11c3) (by decide +kernel) rfl rfl rfl (by decide +kernel)
set_option maxRecDepth 65536 in
theorem w_c18 : (Jvm.Cond.code ({ cls := "jdk/internal/util/Preconditions", name := "checkIndex", desc := "(IILjava/util/function/BiFunction;)I" } : Jvm.MethodName) jdk_41_method_11_code (3 : Nat) (Option.some Jvm.ClassFile.FieldType.int)).before args0 about1 = true := code_word (m := ⟨14, 1⟩) (meth := k14m1) (c := k14c1) (by decide +kernel) rfl rfl rfl (by decide +kernel)
set_option maxRecDepth 65536 in
theorem w_c19 : (Jvm.Cond.code ({ cls := "java/lang/StringBuilder", name := "length", desc := "()I" } : Jvm.MethodName) jdk_67_method_93_code (1 : Nat) (Option.some Jvm.ClassFile.FieldType.int)).before args0 about1 = true := code_word (m := ⟨8, 2⟩) (meth := k8m2) (c := k8c2) (by decide +kernel) rfl rfl rfl (by decide +kernel)
set_option maxRecDepth 65536 in
theorem w_c20 : (Jvm.Cond.code ({ cls := "java/lang/AbstractStringBuilder", name := "length", desc := "()I" } : Jvm.MethodName) jdk_68_method_6_code (1 : Nat) (Option.some Jvm.ClassFile.FieldType.int)).before args0 about1 = true := code_word (m := ⟨5, 2⟩) (meth := k5m2) (c := k5c2) (by decide +kernel) rfl rfl rfl (by decide +kernel)
set_option maxRecDepth 65536 in
theorem w_c21 : (Jvm.Cond.code ({ cls := "com/example/yuanterm/yuanterm/Decimals$Digits", name := "significant", desc := "(C)V" } : Jvm.MethodName) prog_28_method_8_code (2 : Nat) (Option.none : Option Jvm.ClassFile.FieldType)).before args0 about1 = true := code_word (m := ⟨2, 4⟩) (meth := k2m4) (c := k2c4) (by decide +kernel) rfl rfl rfl (by decide +kernel)
set_option maxRecDepth 65536 in
theorem w_c22 : (Jvm.Cond.code ({ cls := "java/lang/StringBuilder", name := "append", desc := "(C)Ljava/lang/StringBuilder;" } : Jvm.MethodName) jdk_67_method_14_code (2 : Nat) (Option.some (Jvm.ClassFile.FieldType.object "java/lang/StringBuilder"))).before args0 about1 = true := code_word (m := ⟨8, 1⟩) (meth := k8m1) (c := k8c1) (by decide +kernel) rfl rfl rfl (by decide +kernel)
set_option maxRecDepth 65536 in
theorem w_c23 : (Jvm.Cond.code ({ cls := "java/lang/AbstractStringBuilder", name := "append", desc := "(C)Ljava/lang/AbstractStringBuilder;" } : Jvm.MethodName) jdk_68_method_31_code (2 : Nat) (Option.some (Jvm.ClassFile.FieldType.object "java/lang/AbstractStringBuilder"))).before args0 about1 = true := code_word (m := ⟨5, 4⟩) (meth := k5m4) (c := k5c4) (by decide +kernel) rfl rfl rfl (by decide +kernel)
set_option maxRecDepth 65536 in
theorem w_c24 : (Jvm.Cond.code ({ cls := "java/lang/AbstractStringBuilder", name := "ensureCapacityInternal", desc := "(I)V" } : Jvm.MethodName) jdk_68_method_9_code (3 : Nat) (Option.none : Option Jvm.ClassFile.FieldType)).before args0 about1 = true := code_word (m := ⟨5, 3⟩) (meth := k5m3) (c := k5c3) (by decide +kernel) rfl rfl rfl (by decide +kernel)
set_option maxRecDepth 65536 in
theorem w_c25 : (Jvm.Cond.code ({ cls := "java/lang/AbstractStringBuilder", name := "isLatin1", desc := "()Z" } : Jvm.MethodName) jdk_68_method_68_code (1 : Nat) (Option.some Jvm.ClassFile.FieldType.boolean)).before args0 about1 = true := code_word (m := ⟨5, 5⟩) (meth := k5m5) (c := k5c5) (by decide +kernel) rfl rfl rfl (by decide +kernel)
set_option maxRecDepth 65536 in
theorem w_c26 : (Jvm.Cond.code ({ cls := "java/lang/StringLatin1", name := "canEncode", desc := "(C)Z" } : Jvm.MethodName) jdk_43_method_3_code (1 : Nat) (Option.some Jvm.ClassFile.FieldType.boolean)).before args0 about1 = true := code_word (m := ⟨13, 2⟩) (meth := k13m2) (c := k13c2) (by decide +kernel) rfl rfl rfl (by decide +kernel)
def codes1 : List Jvm.Cond := [Jvm.Cond.code x code maxLocals ret, Jvm.Cond.code ({ cls := "com/example/yuanterm/yuanterm/DigitsIsPlainPinLaw", name := "pick", desc := "(I)C" } : Jvm.MethodName) method_2_code (2 : Nat) (Option.some Jvm.ClassFile.FieldType.char), Jvm.Cond.code ({ cls := "com/example/yuanterm/yuanterm/Decimals$Digits", name := "<init>", desc := "(I)V" } : Jvm.MethodName) prog_28_method_1_code (2 : Nat) (Option.none : Option Jvm.ClassFile.FieldType), Jvm.Cond.code ({ cls := "java/lang/Object", name := "<init>", desc := "()V" } : Jvm.MethodName) object_method_1_code (1 : Nat) (Option.none : Option Jvm.ClassFile.FieldType), Jvm.Cond.code ({ cls := "java/lang/StringBuilder", name := "<init>", desc := "()V" } : Jvm.MethodName) jdk_67_method_1_code (1 : Nat) (Option.none : Option Jvm.ClassFile.FieldType), Jvm.Cond.code ({ cls := "java/lang/AbstractStringBuilder", name := "<init>", desc := "(I)V" } : Jvm.MethodName) jdk_68_method_2_code (2 : Nat) (Option.none : Option Jvm.ClassFile.FieldType), Jvm.Cond.code ({ cls := "com/example/yuanterm/yuanterm/Decimals$Digits", name := "isPlain", desc := "()Z" } : Jvm.MethodName) prog_28_method_4_code (1 : Nat) (Option.some Jvm.ClassFile.FieldType.boolean), Jvm.Cond.code ({ cls := "com/example/yuanterm/yuanterm/Decimals$Digits", name := "isDecimal", desc := "()Z" } : Jvm.MethodName) prog_28_method_3_code (1 : Nat) (Option.some Jvm.ClassFile.FieldType.boolean), Jvm.Cond.code ({ cls := "com/example/yuanterm/yuanterm/DigitsIsPlainPinLaw", name := "badAt", desc := "([CIII)I" } : Jvm.MethodName) method_4_code (4 : Nat) (Option.some Jvm.ClassFile.FieldType.int), Jvm.Cond.code ({ cls := "com/example/yuanterm/yuanterm/DigitsIsPlainPinLaw", name := "dotAt", desc := "([CII)I" } : Jvm.MethodName) method_5_code (3 : Nat) (Option.some Jvm.ClassFile.FieldType.int), Jvm.Cond.code ({ cls := "com/example/yuanterm/yuanterm/DigitsIsPlainPinLaw", name := "firstDot", desc := "([CI)I" } : Jvm.MethodName) method_6_code (2 : Nat) (Option.some Jvm.ClassFile.FieldType.int), Jvm.Cond.code ({ cls := "com/example/yuanterm/yuanterm/Decimals$Digits", name := "add", desc := "(C)Z" } : Jvm.MethodName) prog_28_method_2_code (5 : Nat) (Option.some Jvm.ClassFile.FieldType.boolean), Jvm.Cond.code ({ cls := "com/example/yuanterm/yuanterm/Decimals", name := "isDigit", desc := "(C)Z" } : Jvm.MethodName) prog_27_method_9_code (1 : Nat) (Option.some Jvm.ClassFile.FieldType.boolean), Jvm.Cond.code ({ cls := "com/example/yuanterm/yuanterm/DigitsIsPlainPinLaw", name := "isDigit", desc := "(C)Z" } : Jvm.MethodName) method_3_code (1 : Nat) (Option.some Jvm.ClassFile.FieldType.boolean), Jvm.Cond.code ({ cls := "java/lang/String", name := "charAt", desc := "(I)C" } : Jvm.MethodName) jdk_42_method_56_code (2 : Nat) (Option.some Jvm.ClassFile.FieldType.char), Jvm.Cond.code ({ cls := "java/lang/String", name := "isLatin1", desc := "()Z" } : Jvm.MethodName) jdk_42_method_154_code (1 : Nat) (Option.some Jvm.ClassFile.FieldType.boolean), Jvm.Cond.code ({ cls := "java/lang/StringLatin1", name := "charAt", desc := "([BI)C" } : Jvm.MethodName) jdk_43_method_2_code (2 : Nat) (Option.some Jvm.ClassFile.FieldType.char), Jvm.Cond.code ({ cls := "java/lang/String", name := "checkIndex", desc := "(II)V" } : Jvm.MethodName) jdk_42_method_155_code (2 : Nat) (Option.none : Option Jvm.ClassFile.FieldType), Jvm.Cond.code ({ cls := "jdk/internal/util/Preconditions", name := "checkIndex", desc := "(IILjava/util/function/BiFunction;)I" } : Jvm.MethodName) jdk_41_method_11_code (3 : Nat) (Option.some Jvm.ClassFile.FieldType.int), Jvm.Cond.code ({ cls := "java/lang/StringBuilder", name := "length", desc := "()I" } : Jvm.MethodName) jdk_67_method_93_code (1 : Nat) (Option.some Jvm.ClassFile.FieldType.int), Jvm.Cond.code ({ cls := "java/lang/AbstractStringBuilder", name := "length", desc := "()I" } : Jvm.MethodName) jdk_68_method_6_code (1 : Nat) (Option.some Jvm.ClassFile.FieldType.int), Jvm.Cond.code ({ cls := "com/example/yuanterm/yuanterm/Decimals$Digits", name := "significant", desc := "(C)V" } : Jvm.MethodName) prog_28_method_8_code (2 : Nat) (Option.none : Option Jvm.ClassFile.FieldType), Jvm.Cond.code ({ cls := "java/lang/StringBuilder", name := "append", desc := "(C)Ljava/lang/StringBuilder;" } : Jvm.MethodName) jdk_67_method_14_code (2 : Nat) (Option.some (Jvm.ClassFile.FieldType.object "java/lang/StringBuilder")), Jvm.Cond.code ({ cls := "java/lang/AbstractStringBuilder", name := "append", desc := "(C)Ljava/lang/AbstractStringBuilder;" } : Jvm.MethodName) jdk_68_method_31_code (2 : Nat) (Option.some (Jvm.ClassFile.FieldType.object "java/lang/AbstractStringBuilder")), Jvm.Cond.code ({ cls := "java/lang/AbstractStringBuilder", name := "ensureCapacityInternal", desc := "(I)V" } : Jvm.MethodName) jdk_68_method_9_code (3 : Nat) (Option.none : Option Jvm.ClassFile.FieldType), Jvm.Cond.code ({ cls := "java/lang/AbstractStringBuilder", name := "isLatin1", desc := "()Z" } : Jvm.MethodName) jdk_68_method_68_code (1 : Nat) (Option.some Jvm.ClassFile.FieldType.boolean), Jvm.Cond.code ({ cls := "java/lang/StringLatin1", name := "canEncode", desc := "(C)Z" } : Jvm.MethodName) jdk_43_method_3_code (1 : Nat) (Option.some Jvm.ClassFile.FieldType.boolean)]
set_option maxRecDepth 65536 in
theorem codes_eq : words1.filter isCode = codes1 := rfl
theorem w_codes : ∀ c ∈ words1.filter isCode, c.before args0 about1 = true := by
  rw [codes_eq]
  intro c hc
  simp only [codes1, List.mem_cons, List.not_mem_nil, or_false] at hc
  rcases hc with rfl | rfl | rfl | rfl | rfl | rfl | rfl | rfl | rfl | rfl | rfl | rfl | rfl | rfl | rfl | rfl | rfl | rfl | rfl | rfl | rfl | rfl | rfl | rfl | rfl | rfl | rfl
  · exact w_c0
  · exact w_c1
  · exact w_c2
  · exact w_c3
  · exact w_c4
  · exact w_c5
  · exact w_c6
  · exact w_c7
  · exact w_c8
  · exact w_c9
  · exact w_c10
  · exact w_c11
  · exact w_c12
  · exact w_c13
  · exact w_c14
  · exact w_c15
  · exact w_c16
  · exact w_c17
  · exact w_c18
  · exact w_c19
  · exact w_c20
  · exact w_c21
  · exact w_c22
  · exact w_c23
  · exact w_c24
  · exact w_c25
  · exact w_c26
set_option maxRecDepth 65536 in
theorem w_t1 : (words1.take 24).all (fun c => isCode c || c.before args0 about1) = true := by decide +kernel
set_option maxRecDepth 65536 in
theorem w_t2 : ((words1.drop 24).take 24).all (fun c => isCode c || c.before args0 about1) = true := by decide +kernel
set_option maxRecDepth 65536 in
theorem w_t3 : (((words1.drop 24).drop 24).take 24).all (fun c => isCode c || c.before args0 about1) = true := by decide +kernel
set_option maxRecDepth 65536 in
theorem w_t4 : ((((words1.drop 24).drop 24).drop 24).take 24).all (fun c => isCode c || c.before args0 about1) = true := by decide +kernel
set_option maxRecDepth 65536 in
theorem w_t5 : (((((words1.drop 24).drop 24).drop 24).drop 24).take 24).all (fun c => isCode c || c.before args0 about1) = true := by decide +kernel
set_option maxRecDepth 65536 in
theorem w_t6 : ((((((words1.drop 24).drop 24).drop 24).drop 24).drop 24).take 24).all (fun c => isCode c || c.before args0 about1) = true := by decide +kernel
set_option maxRecDepth 65536 in
theorem w_t7 : ((((((words1.drop 24).drop 24).drop 24).drop 24).drop 24).drop 24).all (fun c => isCode c || c.before args0 about1) = true := by decide +kernel
theorem w_tables : (allAtoms (Jvm.Cond.code x code maxLocals ret :: tables_1)).before args0 about1 = true := by
  rw [allAtoms_all]
  show words1.all (fun c => c.before args0 about1) = true
  refine all_split ?_ w_codes
  rw [← List.take_append_drop 24 words1, List.all_append, w_t1, ← List.take_append_drop 24 (words1.drop 24), List.all_append, w_t2, ← List.take_append_drop 24 ((words1.drop 24).drop 24), List.all_append, w_t3, ← List.take_append_drop 24 (((words1.drop 24).drop 24).drop 24), List.all_append, w_t4, ← List.take_append_drop 24 ((((words1.drop 24).drop 24).drop 24).drop 24), List.all_append, w_t5, ← List.take_append_drop 24 (((((words1.drop 24).drop 24).drop 24).drop 24).drop 24), List.all_append, w_t6, w_t7]
  rfl
set_option maxRecDepth 65536 in
theorem w_rest : rest_1_c.before args0 about1 = true := by decide +kernel
set_option maxRecDepth 65536 in
theorem w_case : (Jvm.Cond.and given_1 narrow_1).before args0 about1 = true := by decide +kernel
set_option maxRecDepth 65536 in
theorem w_consts : constsHeld consts_1 about1 := Jvm.Lit.constsHeldB_iff.mp (by decide +kernel)
theorem w_applies : (headSpec (Jvm.Cond.code x code maxLocals ret :: tables_1) room_1).applies x e0.platform about1 = true :=
  (Spec.applies_iff w_frames).mpr ⟨w_running, w_runnable, w_alone, w_named, w_hears, w_ripe, w_room, w_tables⟩
theorem atStart : AtStart classFile x code maxLocals ret World_1 tables_1 room_1 Calls_1 rest_1 Pre_1 launch0 p0 e0 about1 theMethod args0 below0 :=
  ⟨lists_1, trivial, launch0.admits_env _ _ _, launch0.least_env, fairChoices_fair.cas, fairChoices_fair.clock, w_frames, w_args, w_heap, w_applies, ⟨w_consts, trivial⟩, w_rest, w_case⟩
end start1
theorem witness_1 : WitnessClaimed_1 := ⟨start1.p0, start1.e0, start1.about1, start1.theMethod, start1.args0, start1.below0, start1.atStart⟩
end Jvm.Pilot.@@N@@
