import JvmDerived
import JvmDerived.Pilot.@@N@@Statement
import JvmDerived.Pilot.@@N@@Code
set_option linter.unusedVariables false
set_option linter.unusedSimpArgs false
namespace Jvm.Pilot.@@N@@
open Jvm Jvm.ClassFile Sem Op Lib Jvm.Free Jvm.Stand Jvm.LawKit Jvm.RoadKit Bundle Jvm.Pilot.@@N@@.Jvm.D
/-! ## own kit, part 0: words, small numbers -/
theorem wd {a0 : Array Value} {Z : State} (hw : ∀ d ∈ tables_1, d.before a0 Z = true) (k : Nat) {d : Jvm.Cond} (h : tables_1[k]? = some d) : d.before a0 Z = true := hw d (List.mem_of_getElem? h)
theorem own_hn {fs : List (String × String × String × Value)} {nm : List String} {j : Nat} {f : String × String × String × Value} (hj : fs[j]? = some f) (h : fs.map (fun z => z.2.1) = nm) (hN : nm.Nodup) : ∀ i f', fs[i]? = some f' → i ≠ j → f'.2.1 ≠ f.2.1 := fun i f' hi q e => by
  subst h
  have a1 : (fs.map (fun z => z.2.1))[i]? = some f'.2.1 := by rw [List.getElem?_map, hi]; rfl
  have a2 : (fs.map (fun z => z.2.1))[j]? = some f.2.1 := by rw [List.getElem?_map, hj]; rfl
  obtain ⟨l1, e1⟩ := List.getElem?_eq_some_iff.mp a1
  obtain ⟨l2, e2⟩ := List.getElem?_eq_some_iff.mp a2
  exact q ((List.getElem_inj hN).mp (e1.trans (e.trans e2.symm)))
theorem own_fld {args : Array Value} {s : State} {t b : Term} {C n d : String} {v : Value} {a : Addr} (ev : t.eval args s none [] s = some (.ref a)) (hb : b.eval args s none [] s = some v) (h : (Jvm.Cond.eq (Term.field t C n d) b).value args s none s [] = some true) : Fld s s.heap a C n d v := by
  have e := fld_at (C := C) (n := n) (dd := d) ev
  cases hf : s.fieldOf? a C n d with
  | none => rw [hf] at e; simp [Cond.value, e] at h
  | some w =>
    rw [hf] at e
    have : w = v := by
      cases w <;> cases v <;> simp [Cond.value, e, hb] at h ⊢ <;> exact h
    subst this
    exact Fld.start hf
theorem own_rem (x k : Int32) (hk : 0 < k.toInt) : 0 ≤ ((x &&& 2147483647) % k).toInt ∧ ((x &&& 2147483647) % k).toInt < k.toInt := by
  have h := (c_andS x 2147483647).2.2 (by decide)
  rw [Int32.toInt_mod]
  exact ⟨Int.tmod_nonneg _ h, Int.tmod_lt_of_pos _ hk⟩
theorem own_mask (x m : Int32) (hm : 0 ≤ m.toInt) : 0 ≤ (x &&& m).toInt ∧ (x &&& m).toInt ≤ m.toInt := by
  have h1 := (c_andS x m).2.2 hm
  refine ⟨h1, ?_⟩
  have q : (x &&& m).toBitVec.toNat ≤ m.toBitVec.toNat := by rw [Int32.toBitVec_and, BitVec.toNat_and]; exact Nat.and_le_right
  change 0 ≤ m.toBitVec.toInt at hm
  change 0 ≤ (x &&& m).toBitVec.toInt at h1
  show (x &&& m).toBitVec.toInt ≤ m.toBitVec.toInt
  rw [BitVec.toInt_eq_toNat_cond] at hm h1 ⊢
  rw [BitVec.toInt_eq_toNat_cond (x := m.toBitVec)]
  split at hm <;> split at h1 <;> split <;> omega
theorem own_nz {x : Int32} (h : x = 0 ∨ x = 1) : narrow .boolean (.int x) = .int x ∧ fits .boolean (.int x) = true := by rcases h with rfl | rfl <;> exact ⟨rfl, rfl⟩
theorem own_b01 {c : Prop} [Decidable c] {b : Int32} (h : b = if c then 0 else 1) : b = 0 ∨ b = 1 := by subst h; split <;> simp
theorem own_cat {v : Value} (h : v.isRef = true) : v.category = 1 := by cases v <;> first | rfl | cases h
theorem own_cI (x : Int32) : (Value.int x).category = 1 := rfl
theorem own_cJ (x : Int64) : (Value.long x).category = 2 := rfl
theorem own_cR (x : Addr) : (Value.ref x).category = 1 := rfl
theorem own_cN : Value.null.category = 1 := rfl
/-! ## own kit, wide form, part 1: objects of the law's own heap; some may only be read (tag 1: handed or new; tag 2: anywhere) -/
abbrev OFld := String × String × String × Value
abbrev OObj := Nat × ((String × List OFld) ⊕ (String × FieldType × List Value))
abbrev OHp := List (Addr × OObj)
abbrev OMode := Option (List (String × Nat) × Vm × Vm × Nat)
abbrev ob (C : String) (fs : List OFld) : OObj := (0, Sum.inl (C, fs))
abbrev ar (D : String) (ty : FieldType) (vs : List Value) : OObj := (0, Sum.inr (D, ty, vs))
abbrev ro (t : Nat) (o : OObj) : OObj := (t, o.2)
def OKo (Z : State) (a0 : Array Value) (h : Heap) (a : Addr) (C : String) (fs : List OFld) : Prop := Exa Z h a C ∧ ∀ f ∈ fs, Laid Z a0 C f.1 f.2.1 f.2.2.1 ∧ (∃ t, parseFieldDescriptor f.2.2.1 = some t) ∧ Fld Z h a f.1 f.2.1 f.2.2.1 f.2.2.2
def OKa (Z : State) (h : Heap) (a : Addr) (D : String) (ty : FieldType) (vs : List Value) : Prop := ∃ c : Cell, Arr Z h a c ty ∧ c.slots = vs.toArray ∧ vs.length < 2 ^ 31 ∧ (D = "" ∨ Z.vm.findClass D = some c.cls) ∧ ∀ v ∈ vs, fits ty v = true
def OK (Z : State) (a0 : Array Value) (h : Heap) (a : Addr) (o : OObj) : Prop := match o.2 with
  | .inl (C, fs) => OKo Z a0 h a C fs
  | .inr (D, ty, vs) => OKa Z h a D ty vs
def wsOf (F : OHp) : List Addr := (F.filter (fun x => x.2.1 == 0)).map (·.1)
def ksOf (F : OHp) : List Addr := (F.filter (fun x => x.2.1 == 0 || x.2.1 == 1)).map (·.1)
/-- what a callee gives back is writable, new or handed to it; or nothing else may be written -/
def own_tg (F F' G : OHp) : Prop := F'.all (fun x => x.2.1 == 0 || x.2.1 == 1) = true ∨ G.all (fun x => x.2.1 != 0) = true ∨ ∀ x ∈ F', x.2.1 = 0 ∨ x.2.1 = 1 ∨ x ∈ F
def SafeM (Z : State) (M : OMode) (h : Heap) (a : Addr) : Prop := match M with
  | none => True
  | some (EL, _, vm0, _) => Safe Z EL vm0 h a
def MInv (Z : State) (a0 : Array Value) (M : OMode) (hS h : Heap) : Prop := match M with
  | none => True
  | some (EL, vmS, vm0, k0) => EW Z a0 EL ∧ Z.Warmed39 vm0 ∧ CHr Z EL vmS hS vm0 h ∧ k0 ≤ h.size
def okE (Z : State) (a0 : Array Value) (M : OMode) (h0 hS : Heap) (F0 : OHp) (h : Heap) (x : Addr × OObj) : Prop :=
  OK Z a0 h x.1 x.2 ∧ (x.2.1 = 0 → h0.size ≤ x.1 ∧ (x.1 ∈ wsOf F0 ∨ hS.size ≤ x.1) ∧ SafeM Z M h x.1) ∧ (x.2.1 = 1 → x.1 ∈ ksOf F0 ∨ hS.size ≤ x.1)
def Hp (Z : State) (a0 : Array Value) (M : OMode) (h0 hS : Heap) (F0 : OHp) (h : Heap) (H : OHp) : Prop :=
  Ext h0 h ∧ Keep hS h (wsOf F0) ∧ MInv Z a0 M hS h ∧ (∀ (i : Nat) (x : Addr × OObj), H[i]? = some x → okE Z a0 M h0 hS F0 h x) ∧ ∀ (i j : Nat) (x y : Addr × OObj), H[i]? = some x → H[j]? = some y → x.1 = y.1 → (x.2.1 = 0 ∨ y.2.1 = 0) → i = j
section Own
variable {Z : State} {a0 : Array Value} {M : OMode} {h0 hS h h' : Heap} {F0 : OHp} {H : OHp} {a : Addr} {o : OObj} {C D O n d : String} {fs : List OFld} {ty : FieldType} {vs : List Value} {v : Value}
theorem OKa.exa (A : OKa Z h a D ty vs) (hD : D ≠ "") : Exa Z h a D := by
  obtain ⟨c, A, -, -, hf, -⟩ := A
  obtain ⟨-, k, hk, comp, hkind⟩ := A.2.1
  exact ⟨c, k, A.1, hf.resolve_left hD, hk, A.plain, fun q => by rw [hkind] at q; cases q⟩
theorem OK.lt (A : OK Z a0 h a o) : a < h.size := by
  obtain ⟨t, ⟨C, fs⟩ | ⟨D, ty, vs⟩⟩ := o
  · exact A.1.lt
  · obtain ⟨c, A, -⟩ := A; exact A.lt
theorem OK.ext (A : OK Z a0 h a o) (E : Ext h h') : OK Z a0 h' a o := by
  obtain ⟨t, ⟨C, fs⟩ | ⟨D, ty, vs⟩⟩ := o
  · exact ⟨A.1.ext E, fun f hf => ⟨(A.2 f hf).1, (A.2 f hf).2.1, (A.2 f hf).2.2.ext E⟩⟩
  · obtain ⟨c, A, r⟩ := A; exact ⟨c, A.ext E, r⟩
theorem OK.keep {us : List Addr} (A : OK Z a0 h a o) (K : Keep h h' us) (q : a ∉ us) : OK Z a0 h' a o := by
  obtain ⟨t, ⟨C, fs⟩ | ⟨D, ty, vs⟩⟩ := o
  · exact ⟨A.1.keep K, fun f hf => ⟨(A.2 f hf).1, (A.2 f hf).2.1, (A.2 f hf).2.2.keep K q⟩⟩
  · obtain ⟨c, A, r⟩ := A; exact ⟨c, ⟨K.2.1 a c A.1 q, A.2⟩, r⟩
theorem OKo.put {j : Nat} (A : OKo Z a0 h a C fs) {w : Value} (hj : fs[j]? = some (O, n, d, w)) (hn : ∀ i f, fs[i]? = some f → i ≠ j → f.2.1 ≠ n) (W : Wr h h' a (Jvm.RoadKit.slotOf Z O n d) v) : OKo Z a0 h' a C (fs.set j (O, n, d, v)) := by
  obtain ⟨E, F⟩ := A
  refine ⟨E.wr W, fun f hf => ?_⟩
  obtain ⟨i, hi⟩ := List.mem_iff_getElem?.mp hf
  obtain ⟨l1, ⟨t1, p1⟩, f1⟩ := F _ (List.mem_of_getElem? hj)
  rw [List.getElem?_set] at hi
  by_cases q : j = i
  · subst q
    have hlt : j < fs.length := (List.getElem?_eq_some_iff.mp hj).1
    simp only [if_true, hlt] at hi
    cases hi
    exact ⟨l1, ⟨t1, p1⟩, f1.same W⟩
  · rw [if_neg q] at hi
    obtain ⟨l2, ⟨t2, p2⟩, f2⟩ := F _ (List.mem_of_getElem? hi)
    exact ⟨l2, ⟨t2, p2⟩, f2.other W (Or.inr (slot_ne l2 l1 (hn i f hi (Ne.symm q)) p2 p1))⟩
theorem OKa.store {j : Nat} (A : OKa Z h a D ty vs) (W : Wr h h' a j v) (hv : fits ty v = true) : OKa Z h' a D ty (vs.set j v) := by
  obtain ⟨c, A, hs, hl, hf, hfit⟩ := A
  refine ⟨_, A.same W, ?_, by simpa using hl, hf, fun u hu => ?_⟩
  · simp [Cell.setSlot, hs]
  · rcases List.mem_or_eq_of_mem_set hu with q | q
    · exact hfit u q
    · exact q ▸ hv
theorem SafeM.new (q : h.size ≤ a) : SafeM Z M h a := by
  rcases M with _ | ⟨EL, vmS, vm0, k0⟩
  · trivial
  · exact Safe.new q
theorem SafeM.keep {us : List Addr} (I : MInv Z a0 M hS h) (K : Keep h h' us) (hs : ∀ x ∈ us, SafeM Z M h x) (S : SafeM Z M h a) : SafeM Z M h' a := by
  rcases M with _ | ⟨EL, vmS, vm0, k0⟩
  · trivial
  · exact Safe.keep K hs I.2.2.1.1 S
theorem MInv.keep {us : List Addr} (I : MInv Z a0 M hS h) (K : Keep h h' us) (hs : ∀ x ∈ us, SafeM Z M h x) : MInv Z a0 M hS h' := by
  rcases M with _ | ⟨EL, vmS, vm0, k0⟩
  · trivial
  · exact ⟨I.1, I.2.1, I.2.2.1.trans (CHr.keep K hs I.2.2.1.1), Nat.le_trans I.2.2.2 K.1⟩
theorem own_keepE (E : Ext h h') (us : List Addr) : Keep h h' us := (Keep.refl h us).ext E
theorem Hp.ne (A : Hp Z a0 M h0 hS F0 h H) {i j : Nat} {x y : Addr × OObj} (hi : H[i]? = some x) (hj : H[j]? = some y) (t : x.2.1 = 0 ∨ y.2.1 = 0) (q : i ≠ j) : x.1 ≠ y.1 := fun e => q (A.2.2.2.2 i j x y hi hj e t)
theorem Hp.at {i : Nat} (A : Hp Z a0 M h0 hS F0 h H) (hi : H[i]? = some (a, o)) : OK Z a0 h a o := (A.2.2.2.1 i _ hi).1
/-- one cell is written -/
theorem Hp.wr {i sl : Nat} {b b' : (String × List OFld) ⊕ (String × FieldType × List Value)} (A : Hp Z a0 M h0 hS F0 h H) (hi : H[i]? = some (a, 0, b)) (W : Wr h h' a sl v) (hO : OK Z a0 h' a (0, b')) : Hp Z a0 M h0 hS F0 h' (H.set i (a, 0, b')) := by
  obtain ⟨E, K, Mi, F, I⟩ := A
  have hge := (F i _ hi).2.1 rfl
  have hlt : i < H.length := (List.getElem?_eq_some_iff.mp hi).1
  have K2 := Keep.of_wr W
  have hsf : ∀ x ∈ [a], SafeM Z M h x := fun x hx => by cases List.mem_singleton.mp hx; exact hge.2.2
  have key : ∀ (k : Nat) (x : Addr × OObj), (H.set i (a, 0, b'))[k]? = some x → ∃ x0 : Addr × OObj, H[k]? = some x0 ∧ x0.1 = x.1 ∧ x0.2.1 = x.2.1 := fun k x hk => by
    rw [List.getElem?_set] at hk
    by_cases q : i = k
    · subst q; simp only [if_true, hlt] at hk; cases hk; exact ⟨_, hi, rfl, rfl⟩
    · rw [if_neg q] at hk; exact ⟨x, hk, rfl, rfl⟩
  refine ⟨?_, K.wr W hge.2.1, Mi.keep K2 hsf, fun k x hk => ?_, fun k1 k2 x y h1 h2 e t => ?_⟩
  · refine ⟨Nat.le_trans E.1 K2.1, fun x c hx => K2.2.1 x c (E.2 x c hx) fun q => ?_⟩
    have := (Array.getElem?_eq_some_iff.mp hx).1
    cases List.mem_singleton.mp q
    have := hge.1
    omega
  · rw [List.getElem?_set] at hk
    by_cases q : i = k
    · subst q; simp only [if_true, hlt] at hk; cases hk
      exact ⟨hO, fun _ => ⟨hge.1, hge.2.1, SafeM.keep Mi K2 hsf hge.2.2⟩, fun z => absurd z (by show ¬ (0 : Nat) = 1; decide)⟩
    · rw [if_neg q] at hk
      obtain ⟨r1, r2, r3⟩ := F k x hk
      refine ⟨r1.keep K2 fun z => ?_, fun z => ⟨(r2 z).1, (r2 z).2.1, SafeM.keep Mi K2 hsf (r2 z).2.2⟩, r3⟩
      exact q (I i k _ _ hi hk (List.mem_singleton.mp z).symm (Or.inl rfl))
  · obtain ⟨x0, e1, e2, e2'⟩ := key k1 x h1
    obtain ⟨y0, e3, e4, e4'⟩ := key k2 y h2
    exact I k1 k2 _ _ e1 e3 (by rw [e2, e4, e]) (by rw [e2', e4']; exact t)
/-- a new cell -/
theorem Hp.new {b : (String × List OFld) ⊕ (String × FieldType × List Value)} (A : Hp Z a0 M h0 hS F0 h H) (E' : Ext h h') (hO : OK Z a0 h' h.size (0, b)) : Hp Z a0 M h0 hS F0 h' (H ++ [(h.size, 0, b)]) := by
  obtain ⟨E, K, Mi, F, I⟩ := A
  have K2 := own_keepE E' []
  have hsf : ∀ x ∈ ([] : List Addr), SafeM Z M h x := fun x hx => nomatch hx
  have key : ∀ (k : Nat) (x : Addr × OObj), (H ++ [(h.size, (0, b))])[k]? = some x → (k < H.length ∧ H[k]? = some x) ∨ (k = H.length ∧ x = (h.size, 0, b)) := fun k x hk => by
    rw [List.getElem?_append] at hk
    split at hk
    · rename_i q; exact Or.inl ⟨q, hk⟩
    · rename_i q
      rcases Nat.eq_or_lt_of_le (Nat.le_of_not_lt q) with e | e
      · subst e; simp at hk; exact Or.inr ⟨rfl, hk.symm⟩
      · rw [List.getElem?_eq_none (by simp; omega)] at hk; cases hk
  refine ⟨⟨Nat.le_trans E.1 E'.1, fun x c hx => E'.2 x c (E.2 x c hx)⟩, K.ext E', Mi.keep K2 hsf, fun k x hk => ?_, fun k1 k2 x y h1 h2 e t => ?_⟩
  · rcases key k x hk with ⟨-, q⟩ | ⟨-, rfl⟩
    · obtain ⟨r1, r2, r3⟩ := F k x q
      exact ⟨r1.ext E', fun z => ⟨(r2 z).1, (r2 z).2.1, SafeM.keep Mi K2 hsf (r2 z).2.2⟩, r3⟩
    · exact ⟨hO, fun _ => ⟨E.1, Or.inr K.1, SafeM.keep Mi K2 hsf (SafeM.new (Nat.le_refl _))⟩, fun z => absurd z (by show ¬ (0 : Nat) = 1; decide)⟩
  · rcases key k1 x h1 with ⟨q1, r1⟩ | ⟨q1, rfl⟩ <;> rcases key k2 y h2 with ⟨q2, r2⟩ | ⟨q2, rfl⟩
    · exact I _ _ _ _ r1 r2 e t
    · exact absurd e (Nat.ne_of_lt (F _ _ r1).1.lt)
    · exact absurd e.symm (Nat.ne_of_lt (F _ _ r2).1.lt)
    · rw [q1, q2]
theorem own_pick {H G : OHp} {ix : List Nat} (hG : ix.map (fun i => H[i]?) = G.map some) : ∀ (k : Nat) (x : Addr × OObj), G[k]? = some x → ∃ i : Nat, ix[k]? = some i ∧ H[i]? = some x := fun k x hk => by
  have q : (G.map some)[k]? = some (some x) := by rw [List.getElem?_map, hk]; rfl
  rw [← hG, List.getElem?_map] at q
  cases hi : ix[k]? with
  | none => rw [hi] at q; cases q
  | some i => rw [hi] at q; exact ⟨i, rfl, Option.some.inj q⟩
theorem own_ixinj {ix : List Nat} (hN : ix.Nodup) {k1 k2 i : Nat} (p1 : ix[k1]? = some i) (p2 : ix[k2]? = some i) : k1 = k2 := by
  have e1 := (List.getElem?_eq_some_iff.mp p1)
  have e2 := (List.getElem?_eq_some_iff.mp p2)
  obtain ⟨l1, e1⟩ := e1
  obtain ⟨l2, e2⟩ := e2
  exact (List.getElem_inj hN).mp (e1.trans e2.symm)
/-- fewer, or in another order -/
theorem Hp.sub {G : OHp} (ix : List Nat) (A : Hp Z a0 M h0 hS F0 h H) (hG : ix.map (fun i => H[i]?) = G.map some) (hN : ix.Nodup) : Hp Z a0 M h0 hS F0 h G := by
  have key := own_pick hG
  refine ⟨A.1, A.2.1, A.2.2.1, fun k x hk => ?_, fun k1 k2 x y h1 h2 e t => ?_⟩
  · obtain ⟨i, -, hi⟩ := key k x hk; exact A.2.2.2.1 i x hi
  · obtain ⟨i, p1, q1⟩ := key k1 x h1
    obtain ⟨j, p2, q2⟩ := key k2 y h2
    cases A.2.2.2.2 i j x y q1 q2 e t
    exact own_ixinj hN p1 p2
theorem own_wsOf {F : OHp} {x : Addr × OObj} (hx : x ∈ F) (t : x.2.1 = 0) : x.1 ∈ wsOf F := List.mem_map_of_mem (List.mem_filter.mpr ⟨hx, by simp [t]⟩)
theorem own_ksOf {F : OHp} {x : Addr × OObj} (hx : x ∈ F) (t : x.2.1 = 0 ∨ x.2.1 = 1) : x.1 ∈ ksOf F := List.mem_map_of_mem (List.mem_filter.mpr ⟨hx, by rcases t with t | t <;> simp [t]⟩)
theorem own_wsOf_e {F : OHp} {a : Addr} (h : a ∈ wsOf F) : ∃ x ∈ F, x.1 = a ∧ x.2.1 = 0 := by
  obtain ⟨x, hx, rfl⟩ := List.mem_map.mp h
  obtain ⟨h1, h2⟩ := List.mem_filter.mp hx
  exact ⟨x, h1, rfl, by simpa using h2⟩
theorem own_ksOf_e {F : OHp} {a : Addr} (h : a ∈ ksOf F) : ∃ x ∈ F, x.1 = a ∧ (x.2.1 = 0 ∨ x.2.1 = 1) := by
  obtain ⟨x, hx, rfl⟩ := List.mem_map.mp h
  obtain ⟨h1, h2⟩ := List.mem_filter.mp hx
  exact ⟨x, h1, rfl, by simpa using h2⟩
/-- what a callee is handed -/
theorem Hp.enter {F : OHp} (A : Hp Z a0 M h0 hS F0 h F) : Hp Z a0 none h0 h F h F :=
  ⟨A.1, Keep.refl _ _, trivial, fun i x hi => ⟨(A.2.2.2.1 i x hi).1, fun t => ⟨((A.2.2.2.1 i x hi).2.1 t).1, Or.inl (own_wsOf (List.mem_of_getElem? hi) t), trivial⟩, fun t => Or.inl (own_ksOf (List.mem_of_getElem? hi) (Or.inr t))⟩, A.2.2.2.2⟩
/-- behind a call: the callee's cells, and those that it was not handed (the addresses alone) -/
theorem own_cross {F F' G : OHp} {ix rx : List Nat} (A : Hp Z a0 M h0 hS F0 h H) (hF : ix.map (fun i => H[i]?) = F.map some) (hG : rx.map (fun i => H[i]?) = G.map some) (hN : (ix ++ rx).Nodup)
    (h1 : ∀ x ∈ F', x.2.1 = 0 → x.1 ∈ wsOf F ∨ h.size ≤ x.1) (h2 : ∀ x ∈ F', x.2.1 = 1 → x.1 ∈ ksOf F ∨ h.size ≤ x.1) (hT : own_tg F F' G) :
    ∀ x ∈ F', ∀ y ∈ G, x.2.1 = 0 ∨ y.2.1 = 0 → x.1 ≠ y.1 := by
  intro x hx y hy t e
  have N := List.nodup_append.mp hN
  obtain ⟨k2, g2⟩ := List.mem_iff_getElem?.mp hy
  obtain ⟨j, pj, hj⟩ := own_pick hG k2 y g2
  have hjr : j ∈ rx := List.mem_of_getElem? pj
  have hlt : y.1 < h.size := (A.2.2.2.1 j y hj).1.lt
  have fin : ∀ z ∈ F, z.1 = x.1 → (z.2.1 = 0 ∨ y.2.1 = 0) → False := fun z hz e2 t2 => by
    obtain ⟨k1, g1⟩ := List.mem_iff_getElem?.mp hz
    obtain ⟨i, pi, hi⟩ := own_pick hF k1 z g1
    have := A.2.2.2.2 i j z y hi hj (e2.trans e) t2
    subst this
    exact N.2.2 i (List.mem_of_getElem? pi) i hjr rfl
  by_cases t0 : x.2.1 = 0
  · rcases h1 x hx t0 with q | q
    · obtain ⟨z, hz, e2, tz⟩ := own_wsOf_e q
      exact fin z hz e2 (Or.inl tz)
    · exact absurd hlt (Nat.not_lt.mpr (e ▸ q))
  · have ty : y.2.1 = 0 := t.resolve_left t0
    rcases hT with hT | hT | hT
    · have q := List.all_eq_true.mp hT x hx
      have t1 : x.2.1 = 1 := by simpa [t0] using q
      rcases h2 x hx t1 with q | q
      · obtain ⟨z, hz, e2, -⟩ := own_ksOf_e q
        exact fin z hz e2 (Or.inr ty)
      · exact absurd hlt (Nat.not_lt.mpr (e ▸ q))
    · have q := List.all_eq_true.mp hT y hy
      simp [ty] at q
    · rcases hT x hx with q | q | q
      · exact t0 q
      · rcases h2 x hx q with q | q
        · obtain ⟨z, hz, e2, -⟩ := own_ksOf_e q
          exact fin z hz e2 (Or.inr ty)
        · exact absurd hlt (Nat.not_lt.mpr (e ▸ q))
      · exact fin x q rfl (Or.inr ty)
theorem own_wsSafe {F : OHp} {ix : List Nat} (A : Hp Z a0 M h0 hS F0 h H) (hF : ix.map (fun i => H[i]?) = F.map some) : ∀ x ∈ wsOf F, SafeM Z M h x ∧ h0.size ≤ x ∧ (x ∈ wsOf F0 ∨ hS.size ≤ x) := fun a ha => by
  obtain ⟨z, hz, rfl, tz⟩ := own_wsOf_e ha
  obtain ⟨k1, g1⟩ := List.mem_iff_getElem?.mp hz
  obtain ⟨i, pi, hi⟩ := own_pick hF k1 z g1
  obtain ⟨q1, q2, q3⟩ := (A.2.2.2.1 i z hi).2.1 tz
  exact ⟨q3, q1, q2⟩
theorem own_ks {F : OHp} {ix : List Nat} (A : Hp Z a0 M h0 hS F0 h H) (hF : ix.map (fun i => H[i]?) = F.map some) : ∀ x ∈ ksOf F, x ∈ ksOf F0 ∨ hS.size ≤ x := fun a ha => by
  obtain ⟨z, hz, rfl, tz⟩ := own_ksOf_e ha
  obtain ⟨k1, g1⟩ := List.mem_iff_getElem?.mp hz
  obtain ⟨i, pi, hi⟩ := own_pick hF k1 z g1
  rcases tz with tz | tz
  · rcases ((A.2.2.2.1 i z hi).2.1 tz).2.1 with q | q
    · obtain ⟨w, hw, e, t⟩ := own_wsOf_e q
      exact Or.inl (e ▸ own_ksOf hw (Or.inl t))
    · exact Or.inr q
  · exact (A.2.2.2.1 i z hi).2.2 tz
/-- behind a call by a callee that loads no constant -/
theorem Hp.back {F F' G : OHp} {ix rx : List Nat} (A : Hp Z a0 M h0 hS F0 h H) (hF : ix.map (fun i => H[i]?) = F.map some) (hG : rx.map (fun i => H[i]?) = G.map some) (hN : (ix ++ rx).Nodup) (B : Hp Z a0 none h0 h F h' F')
    (hT : own_tg F F' G) : Hp Z a0 M h0 hS F0 h' (F' ++ G) := by
  have N := List.nodup_append.mp hN
  have AG := A.sub rx hG N.2.1
  have ws := own_wsSafe A hF
  have hsf : ∀ x ∈ wsOf F, SafeM Z M h x := fun x hx => (ws x hx).1
  have cr := own_cross (F' := F') A hF hG hN (fun x hx t => by obtain ⟨k, hk⟩ := List.mem_iff_getElem?.mp hx; exact ((B.2.2.2.1 k x hk).2.1 t).2.1) (fun x hx t => by obtain ⟨k, hk⟩ := List.mem_iff_getElem?.mp hx; exact (B.2.2.2.1 k x hk).2.2 t) hT
  have key : ∀ (k : Nat) (x : Addr × OObj), (F' ++ G)[k]? = some x → (k < F'.length ∧ F'[k]? = some x) ∨ (F'.length ≤ k ∧ G[k - F'.length]? = some x) := fun k x hk => by
    rw [List.getElem?_append] at hk
    split at hk
    · rename_i q; exact Or.inl ⟨q, hk⟩
    · rename_i q; exact Or.inr ⟨Nat.le_of_not_lt q, hk⟩
  refine ⟨B.1, A.2.1.trans B.2.1 fun x hx => (ws x hx).2.2, A.2.2.1.keep B.2.1 hsf, fun k x hk => ?_, fun k1 k2 x y g1 g2 e t => ?_⟩
  · rcases key k x hk with ⟨-, q⟩ | ⟨-, q⟩
    · obtain ⟨r1, r2, r3⟩ := B.2.2.2.1 k x q
      refine ⟨r1, fun t => ⟨(r2 t).1, ?_, ?_⟩, fun t => (r3 t).elim (own_ks A hF _) fun z => Or.inr (Nat.le_trans A.2.1.1 z)⟩
      · exact (r2 t).2.1.elim (fun z => (ws _ z).2.2) fun z => Or.inr (Nat.le_trans A.2.1.1 z)
      · exact (r2 t).2.1.elim (fun z => SafeM.keep A.2.2.1 B.2.1 hsf (hsf _ z)) fun z => SafeM.keep A.2.2.1 B.2.1 hsf (SafeM.new z)
    · obtain ⟨r1, r2, r3⟩ := AG.2.2.2.1 _ x q
      refine ⟨r1.keep B.2.1 fun z => ?_, fun t => ⟨(r2 t).1, (r2 t).2.1, SafeM.keep A.2.2.1 B.2.1 hsf (r2 t).2.2⟩, r3⟩
      obtain ⟨w, hw, e, tw⟩ := own_wsOf_e z
      obtain ⟨k1, p1⟩ := List.mem_iff_getElem?.mp hw
      obtain ⟨i, pi, hi⟩ := own_pick hF k1 w p1
      obtain ⟨j, pj, hj⟩ := own_pick hG _ x q
      have := A.2.2.2.2 i j w x hi hj e (Or.inl tw)
      subst this
      exact N.2.2 i (List.mem_of_getElem? pi) i (List.mem_of_getElem? pj) rfl
  · rcases key k1 x g1 with ⟨l1, q1⟩ | ⟨l1, q1⟩ <;> rcases key k2 y g2 with ⟨l2, q2⟩ | ⟨l2, q2⟩
    · exact B.2.2.2.2 _ _ _ _ q1 q2 e t
    · exact absurd e (cr x (List.mem_of_getElem? q1) y (List.mem_of_getElem? q2) t)
    · exact absurd e.symm (cr y (List.mem_of_getElem? q2) x (List.mem_of_getElem? q1) t.symm)
    · have := AG.2.2.2.2 _ _ _ _ q1 q2 e t; omega
theorem Hp.start (s : State) (a0 : Array Value) : Hp s a0 none s.heap s.heap [] s.heap [] :=
  ⟨⟨Nat.le_refl _, fun _ _ q => q⟩, Keep.refl _ _, trivial, fun i x q => by simp at q, fun i j x y q => by simp at q⟩
end Own
/-! ## own kit, part 2: blocks of plain instructions -/
abbrev OSt := Option (Array Slot × List Value)
def oLen (n k : Nat) (x : OSt) : OSt := if n = k then x else none
def oLdA (Ls : Array Slot) (k : Nat) (st : List Value) : OSt := match Ls[k]? with
  | some (.val (.ref a)) => some (Ls, .ref a :: st)
  | some (.val .null) => some (Ls, .null :: st)
  | _ => none
def oLdI (Ls : Array Slot) (k : Nat) (st : List Value) : OSt := match Ls[k]? with
  | some (.val (.int v)) => some (Ls, .int v :: st)
  | _ => none
def oLdJ (Ls : Array Slot) (k : Nat) (st : List Value) : OSt := match Ls[k]? with
  | some (.val (.long v)) => some (Ls, .long v :: st)
  | _ => none
def oStI (Ls : Array Slot) (k : Nat) (st : List Value) : OSt := match st with
  | .int x :: r => match storeLocals Ls k (.int x) with
    | some l => some (l, r)
    | none => none
  | _ => none
def oStJ (Ls : Array Slot) (k : Nat) (st : List Value) : OSt := match st with
  | .long x :: r => match storeLocals Ls k (.long x) with
    | some l => some (l, r)
    | none => none
  | _ => none
def oStA (Ls : Array Slot) (k : Nat) (st : List Value) : OSt := match st with
  | .ref x :: r => match storeLocals Ls k (.ref x) with
    | some l => some (l, r)
    | none => none
  | .null :: r => match storeLocals Ls k .null with
    | some l => some (l, r)
    | none => none
  | _ => none
def oInc (Ls : Array Slot) (k : Nat) (c : Int) (st : List Value) : OSt := match Ls[k]? with
  | some (.val (.int x)) => match storeLocals Ls k (.int (x + Int32.ofInt c)) with
    | some l => some (l, st)
    | none => none
  | _ => none
def oII (Ls : Array Slot) (st : List Value) (f : Int32 → Int32 → Int32) : OSt := match st with
  | .int y :: .int x :: r => some (Ls, .int (f x y) :: r)
  | _ => none
def oIIz (Ls : Array Slot) (st : List Value) (f : Int32 → Int32 → Int32) : OSt := match st with
  | .int y :: .int x :: r => if y ≠ 0 then some (Ls, .int (f x y) :: r) else none
  | _ => none
def oJJ (Ls : Array Slot) (st : List Value) (f : Int64 → Int64 → Value) : OSt := match st with
  | .long y :: .long x :: r => some (Ls, f x y :: r)
  | _ => none
def oJI (Ls : Array Slot) (st : List Value) (f : Int64 → Int32 → Int64) : OSt := match st with
  | .int y :: .long x :: r => some (Ls, .long (f x y) :: r)
  | _ => none
def oI (Ls : Array Slot) (st : List Value) (f : Int32 → Value) : OSt := match st with
  | .int x :: r => some (Ls, f x :: r)
  | _ => none
def oJ (Ls : Array Slot) (st : List Value) (f : Int64 → Value) : OSt := match st with
  | .long x :: r => some (Ls, f x :: r)
  | _ => none
def oOne : Value → Bool
  | .int _ => true
  | .ref _ => true
  | .null => true
  | _ => false
def oDup (Ls : Array Slot) (st : List Value) : OSt := match st with
  | x :: r => if oOne x = true then some (Ls, x :: x :: r) else none
  | _ => none
def oPop (Ls : Array Slot) (st : List Value) : OSt := match st with
  | x :: r => if oOne x = true then some (Ls, r) else none
  | _ => none
def oDupX (Ls : Array Slot) (st : List Value) : OSt := match st with
  | x :: y :: r => if oOne x = true then (if oOne y = true then some (Ls, x :: y :: x :: r) else none) else none
  | _ => none
abbrev oUshr (x y : Int32) : Int32 := (x.toUInt32 >>> (y &&& 31).toUInt32).toInt32
abbrev oLushr (x : Int64) (y : Int32) : Int64 := (x.toUInt64 >>> (y &&& 0x3f).toInt64.toUInt64).toInt64
abbrev oI2c (x : Int32) : Int32 := x.toUInt32.toUInt16.toUInt32.toInt32
abbrev oI2b (x : Int32) : Int32 := x.toInt8.toInt32
abbrev oLcmp (x y : Int64) : Int32 := if x > y then 1 else if x = y then 0 else -1
def oEx (i : Instr) (n : Nat) (Ls : Array Slot) (st : List Value) : OSt := match i with
  | .aload_n k => oLen n 1 (oLdA Ls k.val st)
  | .aload k => oLen n 2 (oLdA Ls k st)
  | .iload_n k => oLen n 1 (oLdI Ls k.val st)
  | .iload k => oLen n 2 (oLdI Ls k st)
  | .lload_n k => oLen n 1 (oLdJ Ls k.val st)
  | .lload k => oLen n 2 (oLdJ Ls k st)
  | .istore_n k => oLen n 1 (oStI Ls k.val st)
  | .istore k => oLen n 2 (oStI Ls k st)
  | .lstore_n k => oLen n 1 (oStJ Ls k.val st)
  | .lstore k => oLen n 2 (oStJ Ls k st)
  | .astore_n k => oLen n 1 (oStA Ls k.val st)
  | .astore k => oLen n 2 (oStA Ls k st)
  | .iinc k c => oLen n 3 (oInc Ls k c st)
  | .iconst v => oLen n 1 (some (Ls, .int (Int32.ofInt v) :: st))
  | .lconst v => oLen n 1 (some (Ls, .long (Int64.ofNat v) :: st))
  | .bipush v => oLen n 2 (some (Ls, .int (Int8.ofInt v).toInt32 :: st))
  | .sipush v => oLen n 3 (some (Ls, .int (Int16.ofInt v).toInt32 :: st))
  | .aconst_null => oLen n 1 (some (Ls, .null :: st))
  | .iadd => oLen n 1 (oII Ls st (fun x y => x + y))
  | .isub => oLen n 1 (oII Ls st (fun x y => x - y))
  | .imul => oLen n 1 (oII Ls st (fun x y => x * y))
  | .iand => oLen n 1 (oII Ls st (fun x y => x &&& y))
  | .ior => oLen n 1 (oII Ls st (fun x y => x ||| y))
  | .ixor => oLen n 1 (oII Ls st (fun x y => x ^^^ y))
  | .ishl => oLen n 1 (oII Ls st (fun x y => x <<< (y &&& 31)))
  | .ishr => oLen n 1 (oII Ls st (fun x y => x >>> (y &&& 31)))
  | .iushr => oLen n 1 (oII Ls st (fun x y => oUshr x y))
  | .irem => oLen n 1 (oIIz Ls st (fun x y => x % y))
  | .idiv => oLen n 1 (oIIz Ls st (fun x y => x / y))
  | .ineg => oLen n 1 (oI Ls st (fun x => .int (-x)))
  | .ladd => oLen n 1 (oJJ Ls st (fun x y => .long (x + y)))
  | .lsub => oLen n 1 (oJJ Ls st (fun x y => .long (x - y)))
  | .lmul => oLen n 1 (oJJ Ls st (fun x y => .long (x * y)))
  | .land => oLen n 1 (oJJ Ls st (fun x y => .long (x &&& y)))
  | .lcmp => oLen n 1 (oJJ Ls st (fun x y => .int (oLcmp x y)))
  | .lushr => oLen n 1 (oJI Ls st (fun x y => oLushr x y))
  | .l2i => oLen n 1 (oJ Ls st (fun x => .int x.toInt32))
  | .i2l => oLen n 1 (oI Ls st (fun x => .long x.toInt64))
  | .i2b => oLen n 1 (oI Ls st (fun x => .int (oI2b x)))
  | .i2c => oLen n 1 (oI Ls st (fun x => .int (oI2c x)))
  | .dup => oLen n 1 (oDup Ls st)
  | .pop => oLen n 1 (oPop Ls st)
  | .dup_x1 => oLen n 1 (oDupX Ls st)
  | _ => none
def oRun : List (Instr × Nat) → Array Slot → List Value → OSt
  | [], Ls, st => some (Ls, st)
  | i :: r, Ls, st => match oEx i.1 i.2 Ls st with
    | some x => oRun r x.1 x.2
    | none => none
def oEnd (pc : Nat) : List (Instr × Nat) → Nat
  | [] => pc
  | i :: r => oEnd (pc + i.2) r
def oAt (code : ByteArray) (pc : Nat) (i : Instr × Nat) : Bool := match decode code pc with
  | .ok j => decide (j = i)
  | .error _ => false
def oBlk (code : ByteArray) (pc : Nat) : List (Instr × Nat) → Bool
  | [] => true
  | i :: r => oAt code pc i && oBlk code (pc + i.2) r
theorem oAt.dec {code : ByteArray} {pc : Nat} {i : Instr × Nat} (h : oAt code pc i = true) : decode code pc = .ok i := by
  unfold oAt at h
  split at h
  · rename_i j e; rw [e, of_decide_eq_true h]
  · cases h
theorem oLen.e {n k : Nat} {x : OSt} {y : Array Slot × List Value} (h : oLen n k x = some y) : n = k ∧ x = some y := by
  unfold oLen at h; split at h
  · exact ⟨by assumption, h⟩
  · cases h
theorem oOne.cat {x : Value} (h : oOne x = true) : x.category = 1 := by cases x <;> simp [oOne, Value.category] at h ⊢
section Sound
variable {tb : Tables} [Ours tb] {e : Env} {below : List Frame} {T target : State} {m : MethodId} {c : Code} {pc : Nat} {Ls L' : Array Slot} {st S' : List Value}
set_option maxHeartbeats 4000000 in
theorem oEx.sound {i : Instr} {n : Nat} (h : At T m c below) (hx : tb.exec = Jvm.exec) (hd : decode c.code pc = .ok (i, n)) (he : oEx i n Ls st = some (L', S'))
    (hr : Steps tb e below (T.setTop (mkF m (pc + n) L' S')) target) : Steps tb e below (T.setTop (mkF m pc Ls st)) target := by
  unfold oEx at he
  split at he <;> first | (cases he; done) | skip
  all_goals (obtain ⟨rfl, he⟩ := oLen.e he)
  · unfold oLdA at he; split at he <;> first | (cases he; done) | skip
    · rename_i q; cases he; exact XS.aloadN h hx rfl hd q rfl hr
    · rename_i q; cases he; exact XS.aloadN h hx rfl hd q rfl hr
  · unfold oLdA at he; split at he <;> first | (cases he; done) | skip
    · rename_i q; cases he; exact XS.aload h hx rfl hd q rfl hr
    · rename_i q; cases he; exact XS.aload h hx rfl hd q rfl hr
  · unfold oLdI at he; split at he <;> first | (cases he; done) | skip
    rename_i q; cases he; exact XS.iloadN h hx rfl hd q hr
  · unfold oLdI at he; split at he <;> first | (cases he; done) | skip
    rename_i q; cases he; exact XS.iload h hx rfl hd q hr
  · unfold oLdJ at he; split at he <;> first | (cases he; done) | skip
    rename_i q; cases he; exact XS.lloadN h hx rfl hd q hr
  · unfold oLdJ at he; split at he <;> first | (cases he; done) | skip
    rename_i q; cases he; exact XS.lload h hx rfl hd q hr
  · unfold oStI at he; split at he <;> first | (cases he; done) | skip
    split at he <;> first | (cases he; done) | skip
    rename_i q; cases he; exact XS.istoreN h hx rfl hd rfl q hr
  · unfold oStI at he; split at he <;> first | (cases he; done) | skip
    split at he <;> first | (cases he; done) | skip
    rename_i q; cases he; exact XS.istore h hx rfl hd rfl q hr
  · unfold oStJ at he; split at he <;> first | (cases he; done) | skip
    split at he <;> first | (cases he; done) | skip
    rename_i q; cases he; exact XS.lstoreN h hx rfl hd rfl q hr
  · unfold oStJ at he; split at he <;> first | (cases he; done) | skip
    split at he <;> first | (cases he; done) | skip
    rename_i q; cases he; exact XS.lstore h hx rfl hd rfl q hr
  · unfold oStA at he; split at he <;> first | (cases he; done) | skip
    all_goals (split at he <;> first | (cases he; done) | skip)
    all_goals (rename_i q; cases he; exact XS.astoreN h hx rfl hd rfl rfl q hr)
  · unfold oStA at he; split at he <;> first | (cases he; done) | skip
    all_goals (split at he <;> first | (cases he; done) | skip)
    all_goals (rename_i q; cases he; exact XS.astore h hx rfl hd rfl rfl q hr)
  · unfold oInc at he; split at he <;> first | (cases he; done) | skip
    rename_i q0
    split at he <;> first | (cases he; done) | skip
    rename_i q; cases he; exact XS.iinc h hx rfl hd q0 q hr
  · cases he; exact XS.iconst h hx rfl hd hr
  · cases he; exact XS.lconst h hx rfl hd hr
  · cases he; exact XS.bipush h hx rfl hd hr
  · cases he; exact XS.sipush h hx rfl hd hr
  · cases he; exact XS.aconstNull h hx rfl hd hr
  · unfold oII at he; split at he <;> first | (cases he; done) | skip
    cases he; exact XS.iadd h hx rfl hd rfl hr
  · unfold oII at he; split at he <;> first | (cases he; done) | skip
    cases he; exact XS.isub h hx rfl hd rfl hr
  · unfold oII at he; split at he <;> first | (cases he; done) | skip
    cases he; exact XS.imul h hx rfl hd rfl hr
  · unfold oII at he; split at he <;> first | (cases he; done) | skip
    cases he; exact XS.iand h hx rfl hd rfl hr
  · unfold oII at he; split at he <;> first | (cases he; done) | skip
    cases he; exact XS.ior h hx rfl hd rfl hr
  · unfold oII at he; split at he <;> first | (cases he; done) | skip
    cases he; exact XS.ixor h hx rfl hd rfl hr
  · unfold oII at he; split at he <;> first | (cases he; done) | skip
    cases he; exact XS.ishl h hx rfl hd rfl hr
  · unfold oII at he; split at he <;> first | (cases he; done) | skip
    cases he; exact XS.ishr h hx rfl hd rfl hr
  · unfold oII at he; split at he <;> first | (cases he; done) | skip
    cases he; exact XS.iushr h hx rfl hd rfl hr
  · unfold oIIz at he; split at he <;> first | (cases he; done) | skip
    split at he <;> first | (cases he; done) | skip
    rename_i hy
    cases he
    refine XS.irem h hx rfl hd rfl hy ?_
    rw [irem_eq_mod]; exact hr
  · unfold oIIz at he; split at he <;> first | (cases he; done) | skip
    split at he <;> first | (cases he; done) | skip
    rename_i hy
    cases he; exact XS.idiv h hx rfl hd rfl hy hr
  · unfold oI at he; split at he <;> first | (cases he; done) | skip
    cases he; exact XS.ineg h hx rfl hd rfl hr
  · unfold oJJ at he; split at he <;> first | (cases he; done) | skip
    cases he; exact XS.ladd h hx rfl hd rfl hr
  · unfold oJJ at he; split at he <;> first | (cases he; done) | skip
    cases he; exact XS.lsub h hx rfl hd rfl hr
  · unfold oJJ at he; split at he <;> first | (cases he; done) | skip
    cases he; exact XS.lmul h hx rfl hd rfl hr
  · unfold oJJ at he; split at he <;> first | (cases he; done) | skip
    cases he; exact XS.land h hx rfl hd rfl hr
  · unfold oJJ at he; split at he <;> first | (cases he; done) | skip
    cases he; exact XS.lcmp h hx rfl hd rfl hr
  · unfold oJI at he; split at he <;> first | (cases he; done) | skip
    cases he; exact XS.lushr h hx rfl hd rfl hr
  · unfold oJ at he; split at he <;> first | (cases he; done) | skip
    cases he; exact XS.l2i h hx rfl hd rfl hr
  · unfold oI at he; split at he <;> first | (cases he; done) | skip
    cases he; exact XS.i2l h hx rfl hd rfl hr
  · unfold oI at he; split at he <;> first | (cases he; done) | skip
    cases he; exact XS.i2b h hx rfl hd rfl hr
  · unfold oI at he; split at he <;> first | (cases he; done) | skip
    cases he; exact XS.i2c h hx rfl hd rfl hr
  · unfold oDup at he; split at he <;> first | (cases he; done) | skip
    split at he <;> first | (cases he; done) | skip
    rename_i q; cases he; exact XS.dup h hx rfl hd rfl (oOne.cat q) hr
  · unfold oPop at he; split at he <;> first | (cases he; done) | skip
    split at he <;> first | (cases he; done) | skip
    rename_i q; cases he; exact XS.pop h hx rfl hd rfl (oOne.cat q) hr
  · unfold oDupX at he; split at he <;> first | (cases he; done) | skip
    split at he <;> first | (cases he; done) | skip
    rename_i q1
    split at he <;> first | (cases he; done) | skip
    rename_i q2; cases he; exact XS.dupX1 h hx rfl hd rfl (oOne.cat q1) (oOne.cat q2) hr
theorem oRun.sound (is : List (Instr × Nat)) : ∀ {pc : Nat} {Ls : Array Slot} {st : List Value}, At T m c below → tb.exec = Jvm.exec → oBlk c.code pc is = true → oRun is Ls st = some (L', S') →
    Steps tb e below (T.setTop (mkF m (oEnd pc is) L' S')) target → Steps tb e below (T.setTop (mkF m pc Ls st)) target := by
  induction is with
  | nil => intro pc Ls st h hx hb he hr; cases he; exact hr
  | cons i r ih =>
    intro pc Ls st h hx hb he hr
    simp only [oBlk, Bool.and_eq_true] at hb
    simp only [oRun] at he
    split at he
    · rename_i x q
      exact oEx.sound h hx (oAt.dec hb.1) q (ih h hx hb.2 he hr)
    · cases he
end Sound
/-! ## own kit, wide form, part 3: from a frame the run goes to its return; in mode 'some' String constants may have been loaded since the start s0 -/
def Cx (p : Program) (s : State) (m : MethodId) (meth : Method) (c : Code) (Z : State) (y : MethodName) (code : ByteArray) (maxL : Nat) (ret : Option FieldType) : Prop :=
  p.tables.exec = Jvm.exec ∧ c.code = code ∧ c.maxLocals = maxL ∧ s.vm.findClass y.cls = some m.cls ∧ meth.name = y.name ∧ meth.sig.returnType = ret ∧ meth.locks = false ∧ Z.Warmed39 s.vm
def MS (M : OMode) (s0 s : State) : Prop := match M with
  | none => s = s0
  | some (_, _, vm0, k0) => s = s0.setVm vm0 ∧ s0.Since vm0 k0
def FinM (Z : State) (a0 : Array Value) (M : OMode) (s0 : State) (h0 hS : Heap) (F0 : OHp) (rc rs : Nat) (Q : Option Value → OHp → Prop) (v : Option Value) (L : List Loc) (o : Outcome) (t : State) : Prop := match M with
  | none => (∃ F', Q v F' ∧ Hp Z a0 none h0 hS F0 t.heap F') ∧ FrameEnd s0 o t L rc rs
  | some (EL, vmS, _, _) => (∃ F' k1, Q v F' ∧ Hp Z a0 (some (EL, vmS, t.vm, k1)) h0 hS F0 t.heap F') ∧ ReturnedEndW s0 o t L rc rs
def Ends (p : Program) (e : Env) (s0 : State) (below : List Frame) (Z : State) (a0 : Array Value) (M : OMode) (h0 hS : Heap) (F0 : OHp) (rc rs : Nat) (Q : Option Value → OHp → Prop) (T : State) (g : JFrame) : Prop :=
  ∃ t o, Steps p.tables e below (T.setTop g) t ∧ t.status = .running ∧ Ended t below o ∧ ∃ v L, o = .returned v ∧ Fr h0.size L ∧ FinM Z a0 M s0 h0 hS F0 rc rs Q v L o t
def Goes (p : Program) (l : Launch) (e : Env) (R : Room) (s : State) (m : MethodId) (args : Array Value) (below : List Frame) (meth : Method) (c : Code) (Z : State) (a0 : Array Value) (M : OMode) (s0 : State) (h0 hS : Heap) (F0 : OHp) (rc rs : Nat) (Q : Option Value → OHp → Prop) (H : OHp) (cells slots : Nat) (g : JFrame) : Prop :=
  ∀ (T : State) (locs : List Loc), MS M s0 s → Stand p l e R s m args below meth c T locs cells slots → Fr h0.size locs → Hp Z a0 M h0 hS F0 T.heap H → Ends p e s0 below Z a0 M h0 hS F0 rc rs Q T g
def Does (l : Launch) (Z : State) (a0 : Array Value) (h0 : Heap) (y : MethodName) (code : ByteArray) (maxL : Nat) (ret : Option FieldType) (rm : Room) (as' : Array Value) (F : OHp) (Q : Option Value → OHp → Prop) : Prop :=
  ∀ (ws : List Jvm.Cond) (h : Heap), Hp Z a0 none h0 h F h F → MetFree l y (head1 (Jvm.Cond.code y code maxL ret :: ws) rm) (fun a U => a = as' ∧ Z.Warmed39 U.vm ∧ U.heap = h) (fun _ _ _ _ _ => True)
    (fun _ U o U' => ∃ v L, o = .returned v ∧ (Fr h0.size L ∧ ∃ F', Q v F' ∧ Hp Z a0 none h0 h F U'.heap F') ∧ FrameEnd U o U' L rm.cells rm.slots)
/-- a method that may load String constants of EL -/
def DoesW (l : Launch) (Z : State) (a0 : Array Value) (EL : List (String × Nat)) (h0 : Heap) (y : MethodName) (code : ByteArray) (maxL : Nat) (ret : Option FieldType) (rm : Room) (as' : Array Value) (F : OHp) (Q : Option Value → OHp → Prop) : Prop :=
  ∀ (ws : List Jvm.Cond) (h : Heap), MetFree l y (head1 (Jvm.Cond.code y code maxL ret :: ws) rm) (fun a U => a = as' ∧ Z.Warmed39 U.vm ∧ U.heap = h ∧ Hp Z a0 (some (EL, U.vm, U.vm, h.size)) h0 h F h F) (fun _ _ _ _ _ => True)
    (fun _ U o U' => ∃ v L, o = .returned v ∧ (Fr h0.size L ∧ ∃ F' k1, Q v F' ∧ Hp Z a0 (some (EL, U.vm, U'.vm, k1)) h0 h F U'.heap F') ∧ ReturnedEndW U o U' L rm.cells rm.slots)
theorem Does.mk {l : Launch} {Z : State} {a0 : Array Value} {h0 : Heap} {y : MethodName} {code : ByteArray} {maxL : Nat} {ret : Option FieldType} {rm : Room} {as' : Array Value} {F : OHp} {Q : Option Value → OHp → Prop} (Ls : Array Slot)
    (hp : plainFor y = true) (hent : ∀ m, entryFrame m as' maxL = mkF m 0 Ls [])
    (K : ∀ (p : Program) (e : Env) (s : State) (m : MethodId) (args : Array Value) (below : List Frame) (meth : Method) (c : Code) (h : Heap), Cx p s m meth c Z y code maxL ret → Goes p l e rm s m args below meth c Z a0 none s h0 h F rm.cells rm.slots Q F 0 0 (mkF m 0 Ls [])) :
    Does l Z a0 h0 y code maxL ret rm as' F Q := by
  intro ws h hH
  refine MetFree.of_bodySF (code := code) (maxLocals := maxL) (ret := ret) hp hisR ?_
  intro p e s m args below meth c s₁ Bd hml hP hK
  obtain ⟨rfl, hZ, hh⟩ := hP
  have X0 : Stand p l e rm s m args below meth c s₁ [] 0 0 := Stand.of_body Bd
  have e0 : s₁.heap = h := by rw [← hh, Bd.state]; rfl
  have G := K p e s m args below meth c h ⟨Bd.exec, Bd.bytes, hml, findClass_of_methodNamed Bd.named, (name_of_methodNamed Bd.named Bd.method).1, Bd.returns, Bd.notSynchronized, hZ⟩ s₁ [] rfl X0 (Fr.nil _) (by rw [e0]; exact hH)
  obtain ⟨t, o, h1, h2, h3, v, L, h4, h5, h6, h7⟩ := G
  exact ⟨t, o, castTop (hent m) h1, h2, h3, v, L, h4, ⟨h5, h6⟩, h7⟩
theorem DoesW.mk {l : Launch} {Z : State} {a0 : Array Value} {EL : List (String × Nat)} {h0 : Heap} {y : MethodName} {code : ByteArray} {maxL : Nat} {ret : Option FieldType} {rm : Room} {as' : Array Value} {F : OHp} {Q : Option Value → OHp → Prop} (Ls : Array Slot)
    (hp : plainFor y = true) (hent : ∀ m, entryFrame m as' maxL = mkF m 0 Ls [])
    (K : ∀ (p : Program) (e : Env) (s0 : State) (vmS vm0 : Vm) (k0 : Nat) (m : MethodId) (args : Array Value) (below : List Frame) (meth : Method) (c : Code) (h : Heap), Cx p (s0.setVm vm0) m meth c Z y code maxL ret → Goes p l e rm (s0.setVm vm0) m args below meth c Z a0 (some (EL, vmS, vm0, k0)) s0 h0 h F rm.cells rm.slots Q F 0 0 (mkF m 0 Ls [])) :
    DoesW l Z a0 EL h0 y code maxL ret rm as' F Q := by
  intro ws h
  refine MetFree.of_bodySF (code := code) (maxLocals := maxL) (ret := ret) hp hisR ?_
  intro p e s m args below meth c s₁ Bd hml hP hK
  obtain ⟨rfl, hZ, hh, hH⟩ := hP
  have X0 : Stand p l e rm s m args below meth c s₁ [] 0 0 := Stand.of_body Bd
  have e0 : s₁.heap = h := by rw [← hh, Bd.state]; rfl
  have G := K p e s s.vm s.vm h.size m args below meth c h ⟨Bd.exec, Bd.bytes, hml, findClass_of_methodNamed Bd.named, (name_of_methodNamed Bd.named Bd.method).1, Bd.returns, Bd.notSynchronized, hZ⟩ s₁ [] ⟨rfl, (State.WarmedH.refl s).since _⟩ X0 (Fr.nil _) (by rw [e0]; exact hH)
  obtain ⟨t, o, h1, h2, h3, v, L, h4, h5, h6, h7⟩ := G
  exact ⟨t, o, castTop (hent m) h1, h2, h3, v, L, h4, ⟨h5, h6⟩, h7⟩
/-- the tables at hand -/
theorem Hp.atVm {p : Program} {l : Launch} {e : Env} {R : Room} {s0 : State} {m : MethodId} {args : Array Value} {below : List Frame} {meth : Method} {c : Code} {T : State} {locs : List Loc} {cells slots : Nat} {Z : State} {a0 : Array Value} {h0 hS : Heap} {F0 H : OHp} {EL : List (String × Nat)} {vmS vm0 : Vm} {k0 : Nat}
    (Y : Stand p l e R (s0.setVm vm0) m args below meth c T locs cells slots) (A : Hp Z a0 (some (EL, vmS, vm0, k0)) h0 hS F0 T.heap H) : Hp Z a0 (some (EL, vmS, T.vm, k0)) h0 hS F0 T.heap H := by
  obtain ⟨E, K, ⟨w, hZ, C, hk⟩, F, I⟩ := A
  have B := CHv.at Y hZ w C.1
  refine ⟨E, K, ⟨w, wtrans (s := s0.setVm vm0) hZ Y.warmed, C.trans B, hk⟩, fun i x hi => ?_, I⟩
  obtain ⟨r1, r2, r3⟩ := F i x hi
  exact ⟨r1, fun t => ⟨(r2 t).1, (r2 t).2.1, B.safe r1.lt (r2 t).2.2⟩, r3⟩
section Goes
variable {p : Program} {l : Launch} {e : Env} {R : Room} {s : State} {m : MethodId} {args : Array Value} {below : List Frame} {meth : Method} {c : Code} {Z : State} {a0 : Array Value} {h0 hS : Heap} {M : OMode} {s0 : State} {F0 : OHp} {rc rs : Nat} {Q : Option Value → OHp → Prop} {H : OHp} {cells slots : Nat} {y : MethodName} {code : ByteArray} {maxL : Nat} {ret : Option FieldType} {pc : Nat} {Ls : Array Slot} {st : List Value}
theorem Ends.via {T T' : State} {g g' : JFrame} (k : Ends p e s0 below Z a0 M h0 hS F0 rc rs Q T' g') (st : ∀ t, Steps p.tables e below (T'.setTop g') t → Steps p.tables e below (T.setTop g) t) : Ends p e s0 below Z a0 M h0 hS F0 rc rs Q T g := by
  obtain ⟨t, o, h1, r⟩ := k
  exact ⟨t, o, st _ h1, r⟩
theorem Goes.run (X : Cx p s m meth c Z y code maxL ret) (is : List (Instr × Nat)) {L' : Array Slot} {S' : List Value} {pc' : Nat} (he : oRun is Ls st = some (L', S')) (k : Goes p l e R s m args below meth c Z a0 M s0 h0 hS F0 rc rs Q H cells slots (mkF m pc' L' S')) (hb : oBlk code pc is = true := by decide +kernel) (hp : oEnd pc is = pc' := by rfl) : Goes p l e R s m args below meth c Z a0 M s0 h0 hS F0 rc rs Q H cells slots (mkF m pc Ls st) := fun T locs S Y N A => by
  subst hp
  exact (k T locs S Y N A).via fun t q => oRun.sound is Y.here X.1 (by rw [X.2.1]; exact hb) he q
theorem Goes.runS (X : Cx p s m meth c Z y code maxL ret) (is : List (Instr × Nat)) {S' : List Value} {pc' : Nat} (he : oRun is Ls st = some (Ls, S')) (k : Goes p l e R s m args below meth c Z a0 M s0 h0 hS F0 rc rs Q H cells slots (mkF m pc' Ls S')) (hb : oBlk code pc is = true := by decide +kernel) (hp : oEnd pc is = pc' := by rfl) : Goes p l e R s m args below meth c Z a0 M s0 h0 hS F0 rc rs Q H cells slots (mkF m pc Ls st) := Goes.run X is he k hb hp
theorem Goes.goto (X : Cx p s m meth c Z y code maxL ret) {o : Int} {pc' : Nat} (k : Goes p l e R s m args below meth c Z a0 M s0 h0 hS F0 rc rs Q H cells slots (mkF m pc' Ls st)) (hd : oAt code pc (.goto o, 3) = true := by decide +kernel) (ho : 0 ≤ (pc : Int) + o := by decide) (hp : ((pc : Int) + o).toNat = pc' := by decide) : Goes p l e R s m args below meth c Z a0 M s0 h0 hS F0 rc rs Q H cells slots (mkF m pc Ls st) := fun T locs S Y N A =>
  (k T locs S Y N A).via fun t q => XS.goto Y.here X.1 rfl (pc0 := pc) rfl (hb X.2.1 (oAt.dec hd)) ho hp q
theorem Goes.if1 (X : Cx p s m meth c Z y code maxL ret) {cd : ClassFile.Cond} {o : Int} {pc' : Nat} {x : Int32} (k1 : ifCond.holds cd x = true → Goes p l e R s m args below meth c Z a0 M s0 h0 hS F0 rc rs Q H cells slots (mkF m pc' Ls st)) (k2 : ifCond.holds cd x = false → Goes p l e R s m args below meth c Z a0 M s0 h0 hS F0 rc rs Q H cells slots (mkF m (pc + 3) Ls st)) (hd : oAt code pc (.ifCond cd o, 3) = true := by decide +kernel) (ho : 0 ≤ (pc : Int) + o := by decide) (hp : ((pc : Int) + o).toNat = pc' := by decide) : Goes p l e R s m args below meth c Z a0 M s0 h0 hS F0 rc rs Q H cells slots (mkF m pc Ls (.int x :: st)) := fun T locs S Y N A => by
  cases q : ifCond.holds cd x with
  | true => exact (k1 q T locs S Y N A).via fun t r => XS.ifYes Y.here X.1 rfl (pc0 := pc) rfl (hb X.2.1 (oAt.dec hd)) rfl q ho hp r
  | false => exact (k2 q T locs S Y N A).via fun t r => XS.ifNo Y.here X.1 rfl (hb X.2.1 (oAt.dec hd)) rfl q r
theorem Goes.if2 (X : Cx p s m meth c Z y code maxL ret) {cd : ClassFile.Cond} {o : Int} {pc' : Nat} {x z : Int32} (k1 : if_icmp.holds cd x z = true → Goes p l e R s m args below meth c Z a0 M s0 h0 hS F0 rc rs Q H cells slots (mkF m pc' Ls st)) (k2 : if_icmp.holds cd x z = false → Goes p l e R s m args below meth c Z a0 M s0 h0 hS F0 rc rs Q H cells slots (mkF m (pc + 3) Ls st)) (hd : oAt code pc (.if_icmp cd o, 3) = true := by decide +kernel) (ho : 0 ≤ (pc : Int) + o := by decide) (hp : ((pc : Int) + o).toNat = pc' := by decide) : Goes p l e R s m args below meth c Z a0 M s0 h0 hS F0 rc rs Q H cells slots (mkF m pc Ls (.int z :: .int x :: st)) := fun T locs S Y N A => by
  cases q : if_icmp.holds cd x z with
  | true => exact (k1 q T locs S Y N A).via fun t r => XS.icmpYes Y.here X.1 rfl (pc0 := pc) rfl (hb X.2.1 (oAt.dec hd)) rfl q ho hp r
  | false => exact (k2 q T locs S Y N A).via fun t r => XS.icmpNo Y.here X.1 rfl (hb X.2.1 (oAt.dec hd)) rfl q r
theorem Goes.ifA (X : Cx p s m meth c Z y code maxL ret) {cd : ClassFile.ACond} {o : Int} {pc' : Nat} {x z : Value} (h1 : x.isRef = true) (h2 : z.isRef = true) (k1 : acV cd (decide (x = z)) = true → Goes p l e R s m args below meth c Z a0 M s0 h0 hS F0 rc rs Q H cells slots (mkF m pc' Ls st)) (k2 : acV cd (decide (x = z)) = false → Goes p l e R s m args below meth c Z a0 M s0 h0 hS F0 rc rs Q H cells slots (mkF m (pc + 3) Ls st)) (hd : oAt code pc (.if_acmp cd o, 3) = true := by decide +kernel) (ho : 0 ≤ (pc : Int) + o := by decide) (hp : ((pc : Int) + o).toNat = pc' := by decide) : Goes p l e R s m args below meth c Z a0 M s0 h0 hS F0 rc rs Q H cells slots (mkF m pc Ls (z :: x :: st)) := fun T locs S Y N A => by
  cases q : acV cd (decide (x = z)) with
  | true => exact (k1 q T locs S Y N A).via fun t r => acmp Y X.1 rfl h1 h2 (pc0 := pc) (pc' := pc') rfl (hb X.2.1 (oAt.dec hd)) rfl rfl ho (by rw [if_pos q]; exact hp.symm) r
  | false => exact (k2 q T locs S Y N A).via fun t r => acmp Y X.1 rfl h1 h2 (pc0 := pc) (pc' := pc + 3) rfl (hb X.2.1 (oAt.dec hd)) rfl rfl ho (by rw [if_neg (by rw [q]; simp)]) r
theorem Goes.nullY (X : Cx p s m meth c Z y code maxL ret) {o : Int} {pc' : Nat} (k : Goes p l e R s m args below meth c Z a0 M s0 h0 hS F0 rc rs Q H cells slots (mkF m pc' Ls st)) (hd : oAt code pc (.ifnull o, 3) = true := by decide +kernel) (ho : 0 ≤ (pc : Int) + o := by decide) (hp : ((pc : Int) + o).toNat = pc' := by decide) : Goes p l e R s m args below meth c Z a0 M s0 h0 hS F0 rc rs Q H cells slots (mkF m pc Ls (.null :: st)) := fun T locs S Y N A =>
  (k T locs S Y N A).via fun t r => XS.ifnullYes Y.here X.1 rfl (pc0 := pc) rfl (hb X.2.1 (oAt.dec hd)) rfl ho hp r
theorem Goes.nullN (X : Cx p s m meth c Z y code maxL ret) {o : Int} {b : Addr} (k : Goes p l e R s m args below meth c Z a0 M s0 h0 hS F0 rc rs Q H cells slots (mkF m (pc + 3) Ls st)) (hd : oAt code pc (.ifnull o, 3) = true := by decide +kernel) : Goes p l e R s m args below meth c Z a0 M s0 h0 hS F0 rc rs Q H cells slots (mkF m pc Ls (.ref b :: st)) := fun T locs S Y N A =>
  (k T locs S Y N A).via fun t r => XS.ifnullNo Y.here X.1 rfl (hb X.2.1 (oAt.dec hd)) rfl r
theorem Goes.nonY (X : Cx p s m meth c Z y code maxL ret) {o : Int} {pc' : Nat} {b : Addr} (k : Goes p l e R s m args below meth c Z a0 M s0 h0 hS F0 rc rs Q H cells slots (mkF m pc' Ls st)) (hd : oAt code pc (.ifnonnull o, 3) = true := by decide +kernel) (ho : 0 ≤ (pc : Int) + o := by decide) (hp : ((pc : Int) + o).toNat = pc' := by decide) : Goes p l e R s m args below meth c Z a0 M s0 h0 hS F0 rc rs Q H cells slots (mkF m pc Ls (.ref b :: st)) := fun T locs S Y N A =>
  (k T locs S Y N A).via fun t r => XS.ifnonnullYes Y.here X.1 rfl (pc0 := pc) rfl (hb X.2.1 (oAt.dec hd)) rfl ho hp r
theorem Goes.nonN (X : Cx p s m meth c Z y code maxL ret) {o : Int} (k : Goes p l e R s m args below meth c Z a0 M s0 h0 hS F0 rc rs Q H cells slots (mkF m (pc + 3) Ls st)) (hd : oAt code pc (.ifnonnull o, 3) = true := by decide +kernel) : Goes p l e R s m args below meth c Z a0 M s0 h0 hS F0 rc rs Q H cells slots (mkF m pc Ls (.null :: st)) := fun T locs S Y N A =>
  (k T locs S Y N A).via fun t r => XS.ifnonnullNo Y.here X.1 rfl (hb X.2.1 (oAt.dec hd)) rfl r
theorem Goes.ldcI (X : Cx p s m meth c Z y code maxL ret) {index : Nat} {v : Int32} (w : (Jvm.Cond.constant y.cls index v).before a0 Z = true) (k : Goes p l e R s m args below meth c Z a0 M s0 h0 hS F0 rc rs Q H cells slots (mkF m (pc + 2) Ls (.int v :: st))) (hd : oAt code pc (.ldc index, 2) = true := by decide +kernel) : Goes p l e R s m args below meth c Z a0 M s0 h0 hS F0 rc rs Q H cells slots (mkF m pc Ls st) := fun T locs S Y N A =>
  (k T locs S Y N A).via fun t r => Y.ldcI X.1 X.2.2.2.1 (mvT X.2.2.2.2.2.2.2 w) rfl (hb X.2.1 (oAt.dec hd)) r
/-- fewer objects, or in another order -/
theorem Goes.sub {G : OHp} (ix : List Nat) (hG : ix.map (fun i => H[i]?) = G.map some) {g : JFrame} (k : Goes p l e R s m args below meth c Z a0 M s0 h0 hS F0 rc rs Q G cells slots g) (hN : ix.Nodup := by decide) : Goes p l e R s m args below meth c Z a0 M s0 h0 hS F0 rc rs Q H cells slots g := fun T locs S Y N A =>
  k T locs S Y N (A.sub ix hG hN)
theorem Goes.more {cells' slots' : Nat} (h1 : cells ≤ cells') (h2 : slots ≤ slots') {g : JFrame} (k : Goes p l e R s m args below meth c Z a0 M s0 h0 hS F0 rc rs Q H cells' slots' g) : Goes p l e R s m args below meth c Z a0 M s0 h0 hS F0 rc rs Q H cells slots g := fun T locs S Y N A =>
  k T locs S (Y.more h1 h2) N A
/-- two objects at two places of the list lie at two addresses -/
theorem Goes.ne {g : JFrame} (i j : Nat) {x z : Addr × OObj} (hi : H[i]? = some x) (hj : H[j]? = some z) (t : x.2.1 = 0 ∨ z.2.1 = 0) (q : i ≠ j) (k : x.1 ≠ z.1 → Goes p l e R s m args below meth c Z a0 M s0 h0 hS F0 rc rs Q H cells slots g) : Goes p l e R s m args below meth c Z a0 M s0 h0 hS F0 rc rs Q H cells slots g := fun T locs S Y N A =>
  k (A.ne hi hj t q) T locs S Y N A
theorem Goes.new (X : Cx p s m meth c Z y code maxL ret) {C : String} {index n : Nat} (fs : List OFld) (w : (Jvm.Cond.classLink y.cls index C).before a0 Z = true) (wi : (Jvm.Cond.instantiable C n).before a0 Z = true) (wz : (Jvm.Cond.initialized C).before a0 Z = true) (hfs : ∀ f ∈ fs, Laid Z a0 C f.1 f.2.1 f.2.2.1 ∧ ∃ t, parseFieldDescriptor f.2.2.1 = some t ∧ f.2.2.2 = defaultValue t) (k : ∀ a, Goes p l e R s m args below meth c Z a0 M s0 h0 hS F0 rc rs Q (H ++ [(a, ob C fs)]) (cells + 1) (slots + n) (mkF m (pc + 3) Ls (.ref a :: st))) (hd : oAt code pc (.new index, 3) = true := by decide +kernel) (hc : cells + 1 ≤ R.cells := by decide) (hl : slots + n ≤ R.slots := by decide) : Goes p l e R s m args below meth c Z a0 M s0 h0 hS F0 rc rs Q H cells slots (mkF m pc Ls st) := fun T locs S Y N A => by
  obtain ⟨T', h', Y', e', E', X', D', -, st'⟩ := newO Y X.1 X.2.2.2.2.2.2.2 X.2.2.2.1 w wi wz rfl (g := mkF m pc Ls st) rfl (hb X.2.1 (oAt.dec hd)) hc hl
  refine (k T.heap.size T' locs S Y' N ?_).via st'
  rw [e']
  refine A.new E' ⟨X', fun f hf => ?_⟩
  obtain ⟨h1, t, h2, h3⟩ := hfs f hf
  exact ⟨h1, ⟨t, h2⟩, by rw [h3]; exact D' h1 h2⟩
theorem Goes.getF (X : Cx p s m meth c Z y code maxL ret) {R0 : String} {index : Nat} (i j : Nat) {a : Addr} {C : String} {fs : List OFld} {f : OFld} {tg : Nat} (hi : H[i]? = some (a, tg, Sum.inl (C, fs))) (hj : fs[j]? = some f) (w : (Jvm.Cond.fieldLink y.cls index R0 f.2.1 f.2.2.1).before a0 Z = true) (via : Via Z R0 f.1 f.2.1 f.2.2.1) (k : Goes p l e R s m args below meth c Z a0 M s0 h0 hS F0 rc rs Q H cells slots (mkF m (pc + 3) Ls (f.2.2.2 :: st))) (hd : oAt code pc (.getfield index, 3) = true := by decide +kernel) : Goes p l e R s m args below meth c Z a0 M s0 h0 hS F0 rc rs Q H cells slots (mkF m pc Ls (.ref a :: st)) := fun T locs S Y N A => by
  have F := ((A.at hi).2 f (List.mem_of_getElem? hj)).2.2
  obtain ⟨T', Y', e', st'⟩ := RoadKit.getF Y X.1 X.2.2.2.2.2.2.2 (host := "") X.2.2.2.1 (Or.inl w) via rfl F (g := mkF m pc Ls (.ref a :: st)) rfl rfl (hb X.2.1 (oAt.dec hd))
  exact (k T' locs S Y' N (by rw [e']; exact A)).via st'
theorem Goes.getFN (X : Cx p s m meth c Z y code maxL ret) {R0 host : String} {index : Nat} (i j : Nat) {a : Addr} {C : String} {fs : List OFld} {f : OFld} {tg : Nat} (hi : H[i]? = some (a, tg, Sum.inl (C, fs))) (hj : fs[j]? = some f) (w : (Jvm.Cond.fieldLinkNest y.cls index R0 f.2.1 f.2.2.1 host).before a0 Z = true) (via : Via Z R0 f.1 f.2.1 f.2.2.1) (k : Goes p l e R s m args below meth c Z a0 M s0 h0 hS F0 rc rs Q H cells slots (mkF m (pc + 3) Ls (f.2.2.2 :: st))) (hd : oAt code pc (.getfield index, 3) = true := by decide +kernel) : Goes p l e R s m args below meth c Z a0 M s0 h0 hS F0 rc rs Q H cells slots (mkF m pc Ls (.ref a :: st)) := fun T locs S Y N A => by
  have F := ((A.at hi).2 f (List.mem_of_getElem? hj)).2.2
  obtain ⟨T', Y', e', st'⟩ := RoadKit.getF Y X.1 X.2.2.2.2.2.2.2 (host := host) X.2.2.2.1 (Or.inr w) via rfl F (g := mkF m pc Ls (.ref a :: st)) rfl rfl (hb X.2.1 (oAt.dec hd))
  exact (k T' locs S Y' N (by rw [e']; exact A)).via st'
theorem Goes.putF (X : Cx p s m meth c Z y code maxL ret) {R0 : String} {index kk : Nat} (i j : Nat) {a : Addr} {C : String} {fs : List OFld} {f : OFld} {v : Value} {ty : FieldType} (hi : H[i]? = some (a, ob C fs)) (hj : fs[j]? = some f) (w : (Jvm.Cond.fieldLink y.cls index R0 f.2.1 f.2.2.1).before a0 Z = true) (via : Via Z R0 f.1 f.2.1 f.2.2.1) (L : (Jvm.Cond.lays C f.1 f.2.1 f.2.2.1).before a0 Z = true ∨ ((Jvm.Cond.laysFinal C f.1 f.2.1 f.2.2.1).before a0 Z = true ∧ y.cls = f.1 ∧ y.name = "<init>")) (wi : (Jvm.Cond.instantiable C kk).before a0 Z = true) (hn : ∀ i f', fs[i]? = some f' → i ≠ j → f'.2.1 ≠ f.2.1) (hty : parseFieldDescriptor f.2.2.1 = some ty) (hnv : narrow ty v = v) (hf : fits ty v = true) (k : Goes p l e R s m args below meth c Z a0 M s0 h0 hS F0 rc rs Q (H.set i (a, ob C (fs.set j (f.1, f.2.1, f.2.2.1, v)))) cells slots (mkF m (pc + 3) Ls st)) (hd : oAt code pc (.putfield index, 3) = true := by decide +kernel) : Goes p l e R s m args below meth c Z a0 M s0 h0 hS F0 rc rs Q H cells slots (mkF m pc Ls (v :: .ref a :: st)) := fun T locs S Y N A => by
  have O := A.at hi
  have F := (O.2 f (List.mem_of_getElem? hj)).2.2
  obtain ⟨T', h', Y', e', W, st'⟩ := RoadKit.putF Y X.1 X.2.2.2.2.2.2.2 (host := "") X.2.2.2.1 (Or.inl w) via rfl F O.1 (L.imp id fun q => ⟨q.1, q.2.1, X.2.2.2.2.1.trans q.2.2⟩) wi hty hnv hf (g := mkF m pc Ls (v :: .ref a :: st)) rfl rfl (hb X.2.1 (oAt.dec hd))
  refine (k T' _ S Y' (Fr.snoc Y' N ((A.2.2.2.1 i _ hi).2.1 rfl).1) ?_).via st'
  rw [e']
  exact A.wr hi W (OKo.put O hj hn W)
theorem Goes.getS (X : Cx p s m meth c Z y code maxL ret) {R0 O n d : String} {index : Nat} {v : Value} (w : (Jvm.Cond.fieldLink y.cls index R0 n d).before a0 Z = true) (via : Via Z R0 O n d) (F : Sta Z h0 O n d v) (k : Goes p l e R s m args below meth c Z a0 M s0 h0 hS F0 rc rs Q H cells slots (mkF m (pc + 3) Ls (v :: st))) (hd : oAt code pc (.getstatic index, 3) = true := by decide +kernel) : Goes p l e R s m args below meth c Z a0 M s0 h0 hS F0 rc rs Q H cells slots (mkF m pc Ls st) := fun T locs S Y N A => by
  obtain ⟨T', Y', e', st'⟩ := RoadKit.getS Y X.1 X.2.2.2.2.2.2.2 (host := "") X.2.2.2.1 w via rfl (F.ext A.1) (g := mkF m pc Ls st) rfl (hb X.2.1 (oAt.dec hd))
  exact (k T' locs S Y' N (by rw [e']; exact A)).via st'
theorem Goes.initO (X : Cx p s m meth c Z y code maxL ret) {index : Nat} {a : Addr} (W : Nat) (w1 : (Jvm.Cond.methodLink y.cls index Lib.objectInit).before a0 Z = true) (w2 : (Jvm.Cond.instanceMethod Lib.objectInit).before a0 Z = true) (w3 : (Jvm.Cond.code Lib.objectInit ⟨#[0xb1]⟩ 1 none).before a0 Z = true) (hsize : Ls.size = maxL) (k : Goes p l e R s m args below meth c Z a0 M s0 h0 hS F0 rc rs Q H cells slots (mkF m (pc + 3) Ls st)) (hd : oAt code pc (.invokespecial index, 3) = true := by decide +kernel) (hf : 1 ≤ R.frames := by decide) (hW : (st.map fun v => v.category).sum = W := by rfl) (hl : W + 12 ≤ R.locals := by decide) : Goes p l e R s m args below meth c Z a0 M s0 h0 hS F0 rc rs Q H cells slots (mkF m pc Ls (.ref a :: st)) := fun T locs S Y N A => by
  subst hW
  obtain ⟨T', Y', e', st'⟩ := RoadKit.initO Y X.1 X.2.2.2.2.2.2.2 X.2.2.2.1 w1 w2 w3 rfl (g := mkF m pc Ls (.ref a :: st)) rfl (hsize.trans X.2.2.1.symm) rfl (hb X.2.1 (oAt.dec hd)) hf (W := (st.map fun v => v.category).sum) (by show 2 * 0 + _ ≤ _; omega) hl
  exact (k T' locs S Y' N (by rw [e']; exact A)).via st'
/-- the return -/
theorem Goes.fin {v : Option Value} {g : JFrame} (X : Cx p s m meth c Z y code maxL ret) (hv : ret = none → v = none) (hQ : Q v H) (hc : cells ≤ rc) (hs : slots ≤ rs)
    (hst : ∀ (T : State) (locs : List Loc) (fs : List Frame), Stand p l e R s m args below meth c T locs cells slots → (∀ (f : JFrame) (acts : List Action), f.method = m → f.locked = none → f.entered = [] → (doReturn e (T.setTop f) acts v).1 = T.setFrames fs) → Steps p.tables e below (T.setTop g) (T.setFrames fs)) :
    Goes p l e R s m args below meth c Z a0 M s0 h0 hS F0 rc rs Q H cells slots g := fun T locs S Y N A => by
  rcases M with _ | ⟨EL, vmS, vm0, k0⟩
  · obtain rfl : s = s0 := S
    obtain ⟨fs, hr, hrun, hended, hW, hsame⟩ := Y.leave (v := v) (fun q => hv (X.2.2.2.2.2.1.symm.trans q)) X.2.2.2.2.2.2.1
    exact ⟨_, _, hst T locs fs Y hr, hrun, hended, v, locs, rfl, N, ⟨H, hQ, A⟩, ⟨_, rfl⟩, hW, hsame.mono hc hs⟩
  · obtain ⟨rfl, hS'⟩ := S
    obtain ⟨fs, hr, hrun, hended, e1, e2, e3, e4⟩ := Y.leaveW hS' A.2.2.1.2.2.2 (v := v) (fun q => hv (X.2.2.2.2.2.1.symm.trans q)) X.2.2.2.2.2.2.1
    exact ⟨_, _, hst T locs fs Y hr, hrun, hended, v, locs, rfl, N, ⟨H, k0, hQ, Hp.atVm (T := T) Y A⟩, e1, e2, e3, e4.mono hc hs⟩
theorem Goes.retV (X : Cx p s m meth c Z y code maxL none) (hQ : Q none H) (hd : oAt code pc (.return_, 1) = true := by decide +kernel) (hc : cells ≤ rc := by decide) (hs : slots ≤ rs := by decide) : Goes p l e R s m args below meth c Z a0 M s0 h0 hS F0 rc rs Q H cells slots (mkF m pc Ls []) :=
  Goes.fin X (fun _ => rfl) hQ hc hs fun T locs fs Y hr => Y.returnOut X.1 X.2.2.2.2.2.1 (hb X.2.1 (oAt.dec hd)) hr
theorem Goes.retI {z : Int32} {t : FieldType} (X : Cx p s m meth c Z y code maxL (some t)) (ht : t = .int ∨ t = .boolean ∨ t = .byte ∨ t = .char ∨ t = .short) (hn : narrow t (.int z) = .int z) (hQ : Q (some (.int z)) H) (hd : oAt code pc (.ireturn, 1) = true := by decide +kernel) (hc : cells ≤ rc := by decide) (hs : slots ≤ rs := by decide) : Goes p l e R s m args below meth c Z a0 M s0 h0 hS F0 rc rs Q H cells slots (mkF m pc Ls (.int z :: st)) :=
  Goes.fin X (fun q => by cases q) hQ hc hs fun T locs fs Y hr => retOut Y X.1 X.2.2.2.2.2.1 hn (Or.inl ⟨rfl, ht, z, rfl⟩) (hb X.2.1 (oAt.dec hd)) hr
theorem Goes.retJ {z : Int64} (X : Cx p s m meth c Z y code maxL (some .long)) (hQ : Q (some (.long z)) H) (hd : oAt code pc (.lreturn, 1) = true := by decide +kernel) (hc : cells ≤ rc := by decide) (hs : slots ≤ rs := by decide) : Goes p l e R s m args below meth c Z a0 M s0 h0 hS F0 rc rs Q H cells slots (mkF m pc Ls (.long z :: st)) :=
  Goes.fin X (fun q => by cases q) hQ hc hs fun T locs fs Y hr => retOut Y X.1 X.2.2.2.2.2.1 rfl (Or.inr (Or.inl ⟨rfl, rfl, z, rfl⟩)) (hb X.2.1 (oAt.dec hd)) hr
theorem Goes.retA {v : Value} {t : FieldType} (X : Cx p s m meth c Z y code maxL (some t)) (ht : t.isReference = true) (hv : v.isRef = true) (hn : narrow t v = v) (hQ : Q (some v) H) (hd : oAt code pc (.areturn, 1) = true := by decide +kernel) (hc : cells ≤ rc := by decide) (hs : slots ≤ rs := by decide) : Goes p l e R s m args below meth c Z a0 M s0 h0 hS F0 rc rs Q H cells slots (mkF m pc Ls (v :: st)) :=
  Goes.fin X (fun q => by cases q) hQ hc hs fun T locs fs Y hr => retOut Y X.1 X.2.2.2.2.2.1 hn (Or.inr (Or.inr (Or.inr (Or.inr ⟨rfl, ht, hv⟩)))) (hb X.2.1 (oAt.dec hd)) hr
/-- a static call -/
theorem Goes.callS (X : Cx p s m meth c Z y code maxL ret) {index : Nat} {y' : MethodName} {code' : ByteArray} {maxL' : Nat} {ret' : Option FieldType} {rm : Room} {argsL : List Value} {F G : OHp} {Q' : Option Value → OHp → Prop} (W : Nat) (ix rx : List Nat) (D : Does l Z a0 h0 y' code' maxL' ret' rm argsL.toArray F Q') (w1 : (Jvm.Cond.methodLink y.cls index y').before a0 Z = true) (w2 : (Jvm.Cond.static y').before a0 Z = true) (w3 : (Jvm.Cond.initialized y'.cls).before a0 Z = true) (w4 : (Jvm.Cond.code y' code' maxL' ret').before a0 Z = true) {ps : List FieldType} {r : Option FieldType} (hpd : parseMethodDescriptor y'.desc = some ⟨ps, r⟩) (hlen : argsL.length = ps.length) {stk : List Value} (hstk : stk = argsL.reverse ++ st) (hsize : Ls.size = maxL) (hF : ix.map (fun i => H[i]?) = F.map some) (hG : rx.map (fun i => H[i]?) = G.map some) (k : ∀ v F', Q' v F' → own_tg F F' G ∧ Goes p l e R s m args below meth c Z a0 M s0 h0 hS F0 rc rs Q (F' ++ G) (cells + rm.cells) (slots + rm.slots) (mkF m (pc + 3) Ls (v.toList ++ st))) (hy : y'.cls ≠ "java/lang/invoke/MethodHandle" ∧ y'.cls ≠ "java/lang/invoke/VarHandle" := by decide) (hN : (ix ++ rx).Nodup := by decide) (hd : oAt code pc (.invokestatic index, 3) = true := by decide +kernel) (hfr : rm.frames + 1 ≤ R.frames := by decide) (hW : (st.map fun v => v.category).sum = W := by rfl) (hlo : W + (maxL' + 11) + rm.locals ≤ R.locals := by decide) (hce : cells + rm.cells ≤ R.cells := by decide) (hsl : slots + rm.slots ≤ R.slots := by decide) : Goes p l e R s m args below meth c Z a0 M s0 h0 hS F0 rc rs Q H cells slots (mkF m pc Ls stk) := fun T locs S Y N A => by
  subst hstk hW
  have NN := List.nodup_append.mp hN
  obtain ⟨v, vm1, ⟨T', L', k', n'⟩, -, Y', ⟨Lc, ⟨N', F', hQ', B⟩, l', k'', n''⟩, st'⟩ := Jvm.LawKit.callS Y X.1 (y := y') X.2.2.2.1 (mvT X.2.2.2.2.2.2.2 w1) (mvT X.2.2.2.2.2.2.2 w2) (mvT X.2.2.2.2.2.2.2 w3) (mvT X.2.2.2.2.2.2.2 w4) hy
    (backOf (W := (st.map fun v => v.category).sum) (Q := fun v h' L => Fr h0.size L ∧ ∃ F', Q' v F' ∧ Hp Z a0 none h0 T.heap F h' F') (D [] T.heap ((A.sub ix hF NN.1).enter)) X.2.2.2.2.2.2.2 w4 w3 hfr hlo) (g := mkF m pc Ls (argsL.reverse ++ st)) rfl (hsize.trans X.2.2.1.symm) (argsL := argsL) (rest := st) (lenOf hpd hlen) rfl (by show 2 * 0 + _ ≤ _; omega) (hb X.2.1 (oAt.dec hd)) (fun _ _ => ⟨rfl, rfl, hce, hsl⟩)
  dsimp only [Pt.U, Pt.locs, Pt.cells, Pt.slots] at Y' l' k'' n'' st' B
  subst l' k'' n''
  exact ((k v F' hQ').2 T' _ S Y' (N.app N') (A.back hF hG hN B (k v F' hQ').1)).via st'
/-- a constructor's call -/
theorem Goes.callN (X : Cx p s m meth c Z y code maxL ret) {index : Nat} {y' : MethodName} {code' : ByteArray} {maxL' : Nat} {rm : Room} {argsL : List Value} {a : Addr} {F G : OHp} {Q' : Option Value → OHp → Prop} (W : Nat) (ix rx : List Nat) (D : Does l Z a0 h0 y' code' maxL' none rm (.ref a :: argsL).toArray F Q') (hy1 : y'.name = "<init>") (w1 : (Jvm.Cond.methodLink y.cls index y').before a0 Z = true) (w2 : (Jvm.Cond.instanceMethod y').before a0 Z = true) (w3 : (Jvm.Cond.initialized y'.cls).before a0 Z = true) (w4 : (Jvm.Cond.code y' code' maxL' none).before a0 Z = true) {ps : List FieldType} {r : Option FieldType} (hpd : parseMethodDescriptor y'.desc = some ⟨ps, r⟩) (hlen : argsL.length = ps.length) {stk : List Value} (hstk : stk = argsL.reverse ++ .ref a :: st) (hsize : Ls.size = maxL) (hF : ix.map (fun i => H[i]?) = F.map some) (hG : rx.map (fun i => H[i]?) = G.map some) (k : ∀ v F', Q' v F' → own_tg F F' G ∧ Goes p l e R s m args below meth c Z a0 M s0 h0 hS F0 rc rs Q (F' ++ G) (cells + rm.cells) (slots + rm.slots) (mkF m (pc + 3) Ls (v.toList ++ st))) (hy : y'.cls ≠ "java/lang/invoke/MethodHandle" ∧ y'.cls ≠ "java/lang/invoke/VarHandle" := by decide) (hN : (ix ++ rx).Nodup := by decide) (hd : oAt code pc (.invokespecial index, 3) = true := by decide +kernel) (hfr : rm.frames + 1 ≤ R.frames := by decide) (hW : (st.map fun v => v.category).sum = W := by rfl) (hlo : W + (maxL' + 11) + rm.locals ≤ R.locals := by decide) (hce : cells + rm.cells ≤ R.cells := by decide) (hsl : slots + rm.slots ≤ R.slots := by decide) : Goes p l e R s m args below meth c Z a0 M s0 h0 hS F0 rc rs Q H cells slots (mkF m pc Ls stk) := fun T locs S Y N A => by
  subst hstk hW
  have NN := List.nodup_append.mp hN
  obtain ⟨v, vm1, ⟨T', L', k', n'⟩, -, Y', ⟨Lc, ⟨N', F', hQ', B⟩, l', k'', n''⟩, st'⟩ := Y.specialBack X.1 (y := y') hy1 X.2.2.2.1 (mvT X.2.2.2.2.2.2.2 w1) (mvT X.2.2.2.2.2.2.2 w2) (mvT X.2.2.2.2.2.2.2 w4) hy
    (backOf (W := (st.map fun v => v.category).sum) (Q := fun v h' L => Fr h0.size L ∧ ∃ F', Q' v F' ∧ Hp Z a0 none h0 T.heap F h' F') (D [] T.heap ((A.sub ix hF NN.1).enter)) X.2.2.2.2.2.2.2 w4 w3 hfr hlo) (g := mkF m pc Ls (argsL.reverse ++ .ref a :: st)) rfl (hsize.trans X.2.2.1.symm) (Steps.refl _) (a := a) (argsL := argsL) (rest := st) (lenOf hpd hlen) rfl (by show 2 * 0 + _ ≤ _; omega) (hb X.2.1 (oAt.dec hd)) (fun _ _ => ⟨rfl, rfl, hce, hsl⟩)
  dsimp only [Pt.U, Pt.locs, Pt.cells, Pt.slots] at Y' l' k'' n'' st' B
  subst l' k'' n''
  exact ((k v F' hQ').2 T' _ S Y' (N.app N') (A.back hF hG hN B (k v F' hQ').1)).via fun t q => st'.trans q
/-- a virtual call on an object of the list -/
theorem Goes.callV (X : Cx p s m meth c Z y code maxL ret) {index : Nat} {y' z' : MethodName} {code' : ByteArray} {maxL' : Nat} {ret' : Option FieldType} {rm : Room} {argsL : List Value} {a : Addr} {C : String} {F G : OHp} {Q' : Option Value → OHp → Prop} (W : Nat) (i : Nat) (ix rx : List Nat) {fs : List OFld} {tg : Nat} (hi : H[i]? = some (a, tg, Sum.inl (C, fs))) (D : Does l Z a0 h0 z' code' maxL' ret' rm (.ref a :: argsL).toArray F Q') (w1 : (Jvm.Cond.methodLink y.cls index y').before a0 Z = true) (w2 : (Jvm.Cond.declares y').before a0 Z = true) (w5 : (Jvm.Cond.selects C y' z').before a0 Z = true) (w6 : (Jvm.Cond.instanceMethod z').before a0 Z = true) (nf : NotFace s y') (w3 : (Jvm.Cond.initialized z'.cls).before a0 Z = true) (w4 : (Jvm.Cond.code z' code' maxL' ret').before a0 Z = true) {ps : List FieldType} {r : Option FieldType} (hpd : parseMethodDescriptor y'.desc = some ⟨ps, r⟩) (hlen : argsL.length = ps.length) {stk : List Value} (hstk : stk = argsL.reverse ++ .ref a :: st) (hsize : Ls.size = maxL) (hF : ix.map (fun i => H[i]?) = F.map some) (hG : rx.map (fun i => H[i]?) = G.map some) (k : ∀ v F', Q' v F' → own_tg F F' G ∧ Goes p l e R s m args below meth c Z a0 M s0 h0 hS F0 rc rs Q (F' ++ G) (cells + rm.cells) (slots + rm.slots) (mkF m (pc + 3) Ls (v.toList ++ st))) (hy : y'.cls ≠ "java/lang/invoke/MethodHandle" ∧ y'.cls ≠ "java/lang/invoke/VarHandle" := by decide) (hN : (ix ++ rx).Nodup := by decide) (hd : oAt code pc (.invokevirtual index, 3) = true := by decide +kernel) (hfr : rm.frames + 1 ≤ R.frames := by decide) (hW : (st.map fun v => v.category).sum = W := by rfl) (hlo : W + (maxL' + 11) + rm.locals ≤ R.locals := by decide) (hce : cells + rm.cells ≤ R.cells := by decide) (hsl : slots + rm.slots ≤ R.slots := by decide) : Goes p l e R s m args below meth c Z a0 M s0 h0 hS F0 rc rs Q H cells slots (mkF m pc Ls stk) := fun T locs S Y N A => by
  subst hstk hW
  have NN := List.nodup_append.mp hN
  obtain ⟨cq, kq, qa, qb, qc⟩ := isOf (T := T) X.2.2.2.2.2.2.2 rfl (A.at hi).1
  obtain ⟨v, vm1, ⟨T', L', k', n'⟩, -, Y', ⟨Lc, ⟨N', F', hQ', B⟩, l', k'', n''⟩, st'⟩ := Y.virtualBack X.1 (y := y') (z := z') X.2.2.2.1 (mvT X.2.2.2.2.2.2.2 w1) (mvT X.2.2.2.2.2.2.2 w2) nf (mvT X.2.2.2.2.2.2.2 w5) (mvT X.2.2.2.2.2.2.2 w6) hy
    (backOf (W := (st.map fun v => v.category).sum) (Q := fun v h' L => Fr h0.size L ∧ ∃ F', Q' v F' ∧ Hp Z a0 none h0 T.heap F h' F') (D [] T.heap ((A.sub ix hF NN.1).enter)) X.2.2.2.2.2.2.2 w4 w3 hfr hlo) qa qc (g := mkF m pc Ls (argsL.reverse ++ .ref a :: st)) rfl (hsize.trans X.2.2.1.symm) (Steps.refl _) (argsL := argsL) (rest := st) (lenOf hpd hlen) rfl (by show 2 * 0 + _ ≤ _; omega) (hb X.2.1 (oAt.dec hd)) (fun _ _ => ⟨rfl, rfl, hce, hsl⟩)
  dsimp only [Pt.U, Pt.locs, Pt.cells, Pt.slots] at Y' l' k'' n'' st' B
  subst l' k'' n''
  exact ((k v F' hQ').2 T' _ S Y' (N.app N') (A.back hF hG hN B (k v F' hQ').1)).via fun t q => st'.trans q
theorem own_nf (X : Cx p s m meth c Z y code maxL ret) {C : String} {y' : MethodName} (w5 : (Jvm.Cond.selects C y' y').before a0 Z = true) : NotFace s y' := notFace_of_selects (args := #[]) (mvT X.2.2.2.2.2.2.2 w5)
end Goes
/-! ## own kit, part 4: arrays; objects that stood at the start -/
section Arrs
variable {p : Program} {l : Launch} {e : Env} {R : Room} {s : State} {m : MethodId} {args : Array Value} {below : List Frame} {meth : Method} {c : Code} {Z : State} {a0 : Array Value} {h0 hS : Heap} {M : OMode} {s0 : State} {F0 : OHp} {rc rs : Nat} {Q : Option Value → OHp → Prop} {H : OHp} {cells slots : Nat} {y : MethodName} {code : ByteArray} {maxL : Nat} {ret : Option FieldType} {pc : Nat} {Ls : Array Slot} {st : List Value}
theorem Goes.newarr (X : Cx p s m meth c Z y code maxL ret) {aty : ArrayType} {n : Int32} (D : String) (nn cap : Nat) (w : (Jvm.Cond.arrayClass (newarray.typeOf aty)).before a0 Z = true) (hD : "[" ++ (newarray.typeOf aty).toString = D) (hn : ¬ n < 0) (hnn : n.toNatClampNeg = nn) (k : ∀ a, Goes p l e R s m args below meth c Z a0 M s0 h0 hS F0 rc rs Q (H ++ [(a, ar D (newarray.typeOf aty) (List.replicate nn (defaultValue (newarray.typeOf aty))))]) (cells + 1) (slots + cap) (mkF m (pc + 2) Ls (.ref a :: st))) (hd : oAt code pc (.newarray aty, 2) = true := by decide +kernel) (hcap : nn ≤ cap := by decide) (hb8 : cap * 8 ≤ 536870912 := by decide) (hc : cells + 1 ≤ R.cells := by decide) (hl : slots + cap ≤ R.slots := by decide) : Goes p l e R s m args below meth c Z a0 M s0 h0 hS F0 rc rs Q H cells slots (mkF m pc Ls (.int n :: st)) := fun T locs S Y N A => by
  have hZ := X.2.2.2.2.2.2.2
  have hcb : componentBytes (newarray.typeOf aty) ≤ 8 := by cases aty <;> decide
  subst hnn hD
  obtain ⟨cA, kA, comp, h1, h2, h3, Y', st'⟩ := Y.newarrayPrim X.1 (mvA hZ w) (g := mkF m pc Ls (.int n :: st)) rfl (hb X.2.1 (oAt.dec hd)) rfl hn (Nat.le_trans (Nat.mul_le_mul hcap hcb) hb8) hc (by omega)
  rw [hZ.alike.findClass] at h1
  obtain ⟨kZ, z1, -⟩ := Vm.findClass_spec h1
  obtain ⟨k', z2, z3⟩ := hZ.alike.2.2 _ _ z1
  cases h2.symm.trans z2
  refine (k T.heap.size _ locs S (Y'.more (Nat.le_refl _) (by omega)) N ?_).via st'
  refine A.new (ext_of fun a q => Array.getElem?_push_lt q |>.trans (Array.getElem?_eq_getElem q).symm) ?_
  refine ⟨newA cA (newarray.typeOf aty) n, ⟨?_, ⟨by simp [newA], kZ, z1, comp, by rw [← h3, z3]⟩, by simp [newA]⟩, ?_, ?_, Or.inr h1, ?_⟩
  · show (T.heap.push _)[T.heap.size]? = _; simp [newA]
  · simp [newA]
  · rw [List.length_replicate]; exact (back32 hn).2
  · intro v hv
    rw [List.eq_of_mem_replicate hv]
    cases aty <;> rfl
theorem Goes.anewarr (X : Cx p s m meth c Z y code maxL ret) {C : String} {index : Nat} {n : Int32} (D : String) (nn cap : Nat) (w : (Jvm.Cond.classLink y.cls index C).before a0 Z = true) (w2 : (Jvm.Cond.arrayOver (.object C)).before a0 Z = true) (hD : "[" ++ (FieldType.object C).toString = D) (hn : ¬ n < 0) (hnn : n.toNatClampNeg = nn) (k : ∀ a, Goes p l e R s m args below meth c Z a0 M s0 h0 hS F0 rc rs Q (H ++ [(a, ar D (.object C) (List.replicate nn .null))]) (cells + 1) (slots + cap) (mkF m (pc + 3) Ls (.ref a :: st))) (hd : oAt code pc (.anewarray index, 3) = true := by decide +kernel) (hcap : nn ≤ cap := by decide) (hb8 : cap * 8 ≤ 536870912 := by decide) (hc : cells + 1 ≤ R.cells := by decide) (hl : slots + cap ≤ R.slots := by decide) : Goes p l e R s m args below meth c Z a0 M s0 h0 hS F0 rc rs Q H cells slots (mkF m pc Ls (.int n :: st)) := fun T locs S Y N A => by
  have hZ := X.2.2.2.2.2.2.2
  subst hnn hD
  have w2' : (Jvm.Cond.arrayOver (.object C)).before args s = true := Cond.arrayOver_alike hZ.alike w2
  obtain ⟨vm₁, cA, kA, comp, -, h1, h2, h3, h4, Y', st'⟩ := Y.anewarrayRefK X.1 X.2.2.2.1 (mv hZ w) w2' (g := mkF m pc Ls (.int n :: st)) rfl (hb X.2.1 (oAt.dec hd)) rfl hn (by omega) hc (by omega)
  rw [hZ.alike.findClass] at h1
  obtain ⟨kZ, z1, -⟩ := Vm.findClass_spec h1
  obtain ⟨k', z2, z3⟩ := hZ.alike.2.2 _ _ z1
  cases h2.symm.trans z2
  refine (k T.heap.size _ locs S (Y'.more (Nat.le_refl _) (by omega)) N ?_).via st'
  refine A.new (ext_of fun a q => Array.getElem?_push_lt q |>.trans (Array.getElem?_eq_getElem q).symm) ?_
  refine ⟨newA cA (.object C) n, ⟨?_, ⟨by simp [newA], kZ, z1, comp, by rw [← h3, z3]⟩, by simp [newA]⟩, ?_, ?_, Or.inr h1, ?_⟩
  · show (T.heap.push _)[T.heap.size]? = _; simp [newA, defaultValue]
  · simp [newA, defaultValue]
  · rw [List.length_replicate]; exact (back32 hn).2
  · intro v hv
    rw [List.eq_of_mem_replicate hv]; rfl
theorem own_inb {cl : Cell} {vs : List Value} {j : Int32} {jn : Nat} (hs : cl.slots = vs.toArray) (hj : j.toNatClampNeg = jn) (h0 : ¬ j < 0) (hlt : jn < vs.length) : ¬ (j < 0 ∨ cl.slots.size ≤ j.toNatClampNeg) := by
  subst hj; rw [hs]; simp only [List.size_toArray]; rintro (q | q)
  · exact h0 q
  · omega
theorem own_get {cl : Cell} {vs : List Value} {j : Int32} {jn : Nat} {v : Value} (hs : cl.slots = vs.toArray) (hj : j.toNatClampNeg = jn) (hv : vs[jn]? = some v) : cl.slots[j.toNatClampNeg]? = some v := by
  rw [hs, hj]; simpa using hv
theorem Goes.alen (X : Cx p s m meth c Z y code maxL ret) (i : Nat) {a : Addr} {D : String} {ty : FieldType} {vs : List Value} {n : Int32} {tg : Nat} (hi : H[i]? = some (a, tg, Sum.inr (D, ty, vs))) (hn : vs.length.toInt32 = n) (k : Goes p l e R s m args below meth c Z a0 M s0 h0 hS F0 rc rs Q H cells slots (mkF m (pc + 1) Ls (.int n :: st))) (hd : oAt code pc (.arraylength, 1) = true := by decide +kernel) : Goes p l e R s m args below meth c Z a0 M s0 h0 hS F0 rc rs Q H cells slots (mkF m pc Ls (.ref a :: st)) := fun T locs S Y N A => by
  obtain ⟨cl, O, hs, -⟩ := A.at hi
  refine (k T locs S Y N A).via fun t q => Y.arraylength X.1 O.1 (State.isArrayOf_alike X.2.2.2.2.2.2.2.alike O.2.1) (g := mkF m pc Ls (.ref a :: st)) rfl rfl (hb X.2.1 (oAt.dec hd)) t ?_
  rw [hs, List.size_toArray, hn]; exact q
theorem Goes.caload (X : Cx p s m meth c Z y code maxL ret) (i jn : Nat) {a : Addr} {D : String} {vs : List Value} {j : Int32} {v : Value} {tg : Nat} (hi : H[i]? = some (a, tg, Sum.inr (D, .char, vs))) (hj : j.toNatClampNeg = jn) (hj0 : ¬ j < 0) (hv : vs[jn]? = some v) (k : Goes p l e R s m args below meth c Z a0 M s0 h0 hS F0 rc rs Q H cells slots (mkF m (pc + 1) Ls (v :: st))) (hd : oAt code pc (.caload, 1) = true := by decide +kernel) : Goes p l e R s m args below meth c Z a0 M s0 h0 hS F0 rc rs Q H cells slots (mkF m pc Ls (.int j :: .ref a :: st)) := fun T locs S Y N A => by
  obtain ⟨cl, O, hs, -⟩ := A.at hi
  exact (k T locs S Y N A).via fun t q => Y.caload X.1 O.1 (State.isArrayOf_alike X.2.2.2.2.2.2.2.alike O.2.1) O.2.2 (own_inb hs hj hj0 (List.getElem?_eq_some_iff.mp hv).1) (own_get hs hj hv) (g := mkF m pc Ls (.int j :: .ref a :: st)) rfl rfl (hb X.2.1 (oAt.dec hd)) t q
theorem Goes.baload (X : Cx p s m meth c Z y code maxL ret) (i jn : Nat) {a : Addr} {D : String} {vs : List Value} {j : Int32} {v : Value} {tg : Nat} (hi : H[i]? = some (a, tg, Sum.inr (D, .byte, vs))) (hj : j.toNatClampNeg = jn) (hj0 : ¬ j < 0) (hv : vs[jn]? = some v) (k : Goes p l e R s m args below meth c Z a0 M s0 h0 hS F0 rc rs Q H cells slots (mkF m (pc + 1) Ls (v :: st))) (hd : oAt code pc (.baload, 1) = true := by decide +kernel) : Goes p l e R s m args below meth c Z a0 M s0 h0 hS F0 rc rs Q H cells slots (mkF m pc Ls (.int j :: .ref a :: st)) := fun T locs S Y N A => by
  obtain ⟨cl, O, hs, -⟩ := A.at hi
  exact (k T locs S Y N A).via fun t q => Y.baloadBytes X.1 O.1 (State.isArrayOf_alike X.2.2.2.2.2.2.2.alike O.2.1) O.2.2 (own_inb hs hj hj0 (List.getElem?_eq_some_iff.mp hv).1) (own_get hs hj hv) (g := mkF m pc Ls (.int j :: .ref a :: st)) rfl rfl (hb X.2.1 (oAt.dec hd)) t q
theorem Goes.aaload (X : Cx p s m meth c Z y code maxL ret) (i jn : Nat) {a : Addr} {D : String} {ty : FieldType} {vs : List Value} {j : Int32} {v : Value} {tg : Nat} (hi : H[i]? = some (a, tg, Sum.inr (D, ty, vs))) (hty : ty.isReference = true) (hj : j.toNatClampNeg = jn) (hj0 : ¬ j < 0) (hv : vs[jn]? = some v) (k : Goes p l e R s m args below meth c Z a0 M s0 h0 hS F0 rc rs Q H cells slots (mkF m (pc + 1) Ls (v :: st))) (hd : oAt code pc (.aaload, 1) = true := by decide +kernel) : Goes p l e R s m args below meth c Z a0 M s0 h0 hS F0 rc rs Q H cells slots (mkF m pc Ls (.int j :: .ref a :: st)) := fun T locs S Y N A => by
  obtain ⟨cl, O, hs, -⟩ := A.at hi
  exact (k T locs S Y N A).via fun t q => Y.aaload X.1 O.1 (State.isArrayOf_alike X.2.2.2.2.2.2.2.alike O.2.1) hty O.2.2 (own_inb hs hj hj0 (List.getElem?_eq_some_iff.mp hv).1) (own_get hs hj hv) (g := mkF m pc Ls (.int j :: .ref a :: st)) rfl rfl (hb X.2.1 (oAt.dec hd)) t q
theorem Goes.castore (X : Cx p s m meth c Z y code maxL ret) (i jn : Nat) {a : Addr} {D : String} {vs : List Value} {j x : Int32} (hi : H[i]? = some (a, ar D .char vs)) (hj : j.toNatClampNeg = jn) (hj0 : ¬ j < 0) (hlt : jn < vs.length) (k : Goes p l e R s m args below meth c Z a0 M s0 h0 hS F0 rc rs Q (H.set i (a, ar D .char (vs.set jn (.int (nar .char x))))) cells slots (mkF m (pc + 1) Ls st)) (hd : oAt code pc (.castore, 1) = true := by decide +kernel) : Goes p l e R s m args below meth c Z a0 M s0 h0 hS F0 rc rs Q H cells slots (mkF m pc Ls (.int x :: .int j :: .ref a :: st)) := fun T locs S Y N A => by
  have O := A.at hi
  obtain ⟨cl, O1, hs, -⟩ := A.at hi
  subst hj
  obtain ⟨T', h', Y', e', W, st'⟩ := stC Y X.1 X.2.2.2.2.2.2.2 rfl O1 (own_inb hs rfl hj0 hlt) (g := mkF m pc Ls (.int x :: .int j :: .ref a :: st)) rfl rfl (hb X.2.1 (oAt.dec hd))
  refine (k T' _ S Y' (Fr.snoc Y' N ((A.2.2.2.1 i _ hi).2.1 rfl).1) ?_).via st'
  rw [e']
  exact A.wr hi W (OKa.store O W (fits_nar_char x))
theorem Goes.bastore (X : Cx p s m meth c Z y code maxL ret) (i jn : Nat) {a : Addr} {D : String} {vs : List Value} {j x : Int32} (hi : H[i]? = some (a, ar D .byte vs)) (hj : j.toNatClampNeg = jn) (hj0 : ¬ j < 0) (hlt : jn < vs.length) (k : Goes p l e R s m args below meth c Z a0 M s0 h0 hS F0 rc rs Q (H.set i (a, ar D .byte (vs.set jn (.int (nar .byte x))))) cells slots (mkF m (pc + 1) Ls st)) (hd : oAt code pc (.bastore, 1) = true := by decide +kernel) : Goes p l e R s m args below meth c Z a0 M s0 h0 hS F0 rc rs Q H cells slots (mkF m pc Ls (.int x :: .int j :: .ref a :: st)) := fun T locs S Y N A => by
  have O := A.at hi
  obtain ⟨cl, O1, hs, -⟩ := A.at hi
  subst hj
  obtain ⟨T', h', Y', e', W, st'⟩ := stB Y X.1 X.2.2.2.2.2.2.2 rfl O1 (own_inb hs rfl hj0 hlt) (g := mkF m pc Ls (.int x :: .int j :: .ref a :: st)) rfl rfl (hb X.2.1 (oAt.dec hd))
  refine (k T' _ S Y' (Fr.snoc Y' N ((A.2.2.2.1 i _ hi).2.1 rfl).1) ?_).via st'
  rw [e']
  exact A.wr hi W (OKa.store O W (fits_nar_byte x))
theorem own_fitC {h : Heap} {a : Addr} {cl : Cell} {ty : FieldType} {vs : List Value} (O : Arr Z h a cl ty) (hs : cl.slots = vs.toArray) (hv : ∀ v ∈ vs, fits ty v = true) : FitC Z cl := fun i v q => by
  obtain ⟨-, k, hk, comp, hkind⟩ := O.2.1
  rw [hs] at q
  have q2 : v ∈ vs := List.mem_of_getElem? (by simpa using q)
  simp [State.fitsSlot, State.slotType?, hk, hkind, hv v q2]
theorem Goes.clone (X : Cx p s m meth c Z y code maxL ret) {index : Nat} (W : Nat) (i : Nat) (cap : Nat) {a : Addr} {D : String} {ty : FieldType} {vs : List Value} (w1 : (Jvm.Cond.methodLink y.cls index ⟨D, "clone", "()Ljava/lang/Object;"⟩).before a0 Z = true) (w2 : (Jvm.Cond.sameMethod D "java/lang/Object" "clone" "()Ljava/lang/Object;").before a0 Z = true) (w3 : (Jvm.Cond.native ⟨"java/lang/Object", "clone", "()Ljava/lang/Object;"⟩).before a0 Z = true) (w4 : (Jvm.Cond.instanceMethod ⟨"java/lang/Object", "clone", "()Ljava/lang/Object;"⟩).before a0 Z = true) (w5 : (Jvm.Cond.selects D ⟨D, "clone", "()Ljava/lang/Object;"⟩ ⟨"java/lang/Object", "clone", "()Ljava/lang/Object;"⟩).before a0 Z = true) (w6 : (Jvm.Cond.castable D "java/lang/Cloneable").before a0 Z = true) {tg : Nat} (hi : H[i]? = some (a, tg, Sum.inr (D, ty, vs))) (hsize : Ls.size = maxL) (k : ∀ b, Goes p l e R s m args below meth c Z a0 M s0 h0 hS F0 rc rs Q (H ++ [(b, ar D ty vs)]) (cells + 1) (slots + cap) (mkF m (pc + 3) Ls (.ref b :: st))) (hDn : D ≠ "" := by decide) (hd : oAt code pc (.invokevirtual index, 3) = true := by decide +kernel) (hf : 1 ≤ R.frames := by decide) (hW : (st.map fun v => v.category).sum = W := by rfl) (hl : W + 14 ≤ R.locals := by decide) (hcap : vs.length ≤ cap := by decide) (hc : cells + 1 ≤ R.cells := by decide) (hsl : slots + cap ≤ R.slots := by decide) : Goes p l e R s m args below meth c Z a0 M s0 h0 hS F0 rc rs Q H cells slots (mkF m pc Ls (.ref a :: st)) := fun T locs S Y N A => by
  have E := (A.at hi : OKa Z T.heap a D ty vs).exa hDn
  obtain ⟨cl, O1, hs, hlen, hfc, hv⟩ := A.at hi
  subst hW
  obtain ⟨T', h', Y', e', E', A', X', st'⟩ := cloneA Y X.1 X.2.2.2.2.2.2.2 X.2.2.2.1 w1 w2 w3 w4 w5 w6 rfl O1 E (own_fitC O1 hs hv) (g := mkF m pc Ls (.ref a :: st)) rfl (hsize.trans X.2.2.1.symm) rfl (hb X.2.1 (oAt.dec hd)) hf (W := (st.map fun v => v.category).sum) (cap := cap) (by show 2 * 0 + _ ≤ _; omega) hl (by rw [hs, List.size_toArray]; exact hcap) hc hsl
  refine (k T.heap.size T' locs S Y' N ?_).via st'
  rw [e']
  exact A.new E' ⟨_, A', hs, hlen, hfc, hv⟩
theorem Goes.castA (X : Cx p s m meth c Z y code maxL ret) {K : String} {index : Nat} (i : Nat) {a : Addr} {D : String} {ty : FieldType} {vs : List Value} (w : (Jvm.Cond.classLink y.cls index K).before a0 Z = true) (wc : (Jvm.Cond.castable D K).before a0 Z = true) {tg : Nat} (hi : H[i]? = some (a, tg, Sum.inr (D, ty, vs))) (k : Goes p l e R s m args below meth c Z a0 M s0 h0 hS F0 rc rs Q H cells slots (mkF m (pc + 3) Ls (.ref a :: st))) (hDn : D ≠ "" := by decide) (hd : oAt code pc (.checkcast index, 3) = true := by decide +kernel) : Goes p l e R s m args below meth c Z a0 M s0 h0 hS F0 rc rs Q H cells slots (mkF m pc Ls (.ref a :: st)) := fun T locs S Y N A => by
  have E := (A.at hi : OKa Z T.heap a D ty vs).exa hDn
  obtain ⟨T', Y', e', st'⟩ := castY Y X.1 X.2.2.2.2.2.2.2 X.2.2.2.1 w rfl (Ins.of_exa E wc) (g := mkF m pc Ls (.ref a :: st)) rfl rfl (hb X.2.1 (oAt.dec hd))
  exact (k T' locs S Y' N (by rw [e']; exact A)).via st'
theorem Goes.castO (X : Cx p s m meth c Z y code maxL ret) {K : String} {index : Nat} (i : Nat) {a : Addr} {C : String} {fs : List OFld} (w : (Jvm.Cond.classLink y.cls index K).before a0 Z = true) (wc : (Jvm.Cond.castable C K).before a0 Z = true) {tg : Nat} (hi : H[i]? = some (a, tg, Sum.inl (C, fs))) (k : Goes p l e R s m args below meth c Z a0 M s0 h0 hS F0 rc rs Q H cells slots (mkF m (pc + 3) Ls (.ref a :: st))) (hd : oAt code pc (.checkcast index, 3) = true := by decide +kernel) : Goes p l e R s m args below meth c Z a0 M s0 h0 hS F0 rc rs Q H cells slots (mkF m pc Ls (.ref a :: st)) := fun T locs S Y N A => by
  obtain ⟨T', Y', e', st'⟩ := castY Y X.1 X.2.2.2.2.2.2.2 X.2.2.2.1 w rfl (Ins.of_exa (A.at hi).1 wc) (g := mkF m pc Ls (.ref a :: st)) rfl rfl (hb X.2.1 (oAt.dec hd))
  exact (k T' locs S Y' N (by rw [e']; exact A)).via st'
/-- a field of an object that stood at the start -/
theorem Goes.getFo (X : Cx p s m meth c Z y code maxL ret) {R0 O n d : String} {index : Nat} {a : Addr} {v : Value} (w : (Jvm.Cond.fieldLink y.cls index R0 n d).before a0 Z = true) (via : Via Z R0 O n d) (F : Fld Z h0 a O n d v) (k : Goes p l e R s m args below meth c Z a0 M s0 h0 hS F0 rc rs Q H cells slots (mkF m (pc + 3) Ls (v :: st))) (hd : oAt code pc (.getfield index, 3) = true := by decide +kernel) : Goes p l e R s m args below meth c Z a0 M s0 h0 hS F0 rc rs Q H cells slots (mkF m pc Ls (.ref a :: st)) := fun T locs S Y N A => by
  obtain ⟨T', Y', e', st'⟩ := RoadKit.getF Y X.1 X.2.2.2.2.2.2.2 (host := "") X.2.2.2.1 (Or.inl w) via rfl (F.ext A.1) (g := mkF m pc Ls (.ref a :: st)) rfl rfl (hb X.2.1 (oAt.dec hd))
  exact (k T' locs S Y' N (by rw [e']; exact A)).via st'
/-- a virtual call on an object that stood at the start -/
theorem Goes.callVo (X : Cx p s m meth c Z y code maxL ret) {index : Nat} {y' z' : MethodName} {code' : ByteArray} {maxL' : Nat} {ret' : Option FieldType} {rm : Room} {argsL : List Value} {a : Addr} {C : String} {F G : OHp} {Q' : Option Value → OHp → Prop} (W : Nat) (ix rx : List Nat) (E : Exa Z h0 a C) (D : Does l Z a0 h0 z' code' maxL' ret' rm (.ref a :: argsL).toArray F Q') (w1 : (Jvm.Cond.methodLink y.cls index y').before a0 Z = true) (w2 : (Jvm.Cond.declares y').before a0 Z = true) (w5 : (Jvm.Cond.selects C y' z').before a0 Z = true) (w6 : (Jvm.Cond.instanceMethod z').before a0 Z = true) (nf : NotFace s y') (w3 : (Jvm.Cond.initialized z'.cls).before a0 Z = true) (w4 : (Jvm.Cond.code z' code' maxL' ret').before a0 Z = true) {ps : List FieldType} {r : Option FieldType} (hpd : parseMethodDescriptor y'.desc = some ⟨ps, r⟩) (hlen : argsL.length = ps.length) {stk : List Value} (hstk : stk = argsL.reverse ++ .ref a :: st) (hsize : Ls.size = maxL) (hF : ix.map (fun i => H[i]?) = F.map some) (hG : rx.map (fun i => H[i]?) = G.map some) (k : ∀ v F', Q' v F' → own_tg F F' G ∧ Goes p l e R s m args below meth c Z a0 M s0 h0 hS F0 rc rs Q (F' ++ G) (cells + rm.cells) (slots + rm.slots) (mkF m (pc + 3) Ls (v.toList ++ st))) (hy : y'.cls ≠ "java/lang/invoke/MethodHandle" ∧ y'.cls ≠ "java/lang/invoke/VarHandle" := by decide) (hN : (ix ++ rx).Nodup := by decide) (hd : oAt code pc (.invokevirtual index, 3) = true := by decide +kernel) (hfr : rm.frames + 1 ≤ R.frames := by decide) (hW : (st.map fun v => v.category).sum = W := by rfl) (hlo : W + (maxL' + 11) + rm.locals ≤ R.locals := by decide) (hce : cells + rm.cells ≤ R.cells := by decide) (hsl : slots + rm.slots ≤ R.slots := by decide) : Goes p l e R s m args below meth c Z a0 M s0 h0 hS F0 rc rs Q H cells slots (mkF m pc Ls stk) := fun T locs S Y N A => by
  subst hstk hW
  have NN := List.nodup_append.mp hN
  obtain ⟨cq, kq, qa, qb, qc⟩ := isOf (T := T) X.2.2.2.2.2.2.2 rfl (E.ext A.1)
  obtain ⟨v, vm1, ⟨T', L', k', n'⟩, -, Y', ⟨Lc, ⟨N', F', hQ', B⟩, l', k'', n''⟩, st'⟩ := Y.virtualBack X.1 (y := y') (z := z') X.2.2.2.1 (mvT X.2.2.2.2.2.2.2 w1) (mvT X.2.2.2.2.2.2.2 w2) nf (mvT X.2.2.2.2.2.2.2 w5) (mvT X.2.2.2.2.2.2.2 w6) hy
    (backOf (W := (st.map fun v => v.category).sum) (Q := fun v h' L => Fr h0.size L ∧ ∃ F', Q' v F' ∧ Hp Z a0 none h0 T.heap F h' F') (D [] T.heap ((A.sub ix hF NN.1).enter)) X.2.2.2.2.2.2.2 w4 w3 hfr hlo) qa qc (g := mkF m pc Ls (argsL.reverse ++ .ref a :: st)) rfl (hsize.trans X.2.2.1.symm) (Steps.refl _) (argsL := argsL) (rest := st) (lenOf hpd hlen) rfl (by show 2 * 0 + _ ≤ _; omega) (hb X.2.1 (oAt.dec hd)) (fun _ _ => ⟨rfl, rfl, hce, hsl⟩)
  dsimp only [Pt.U, Pt.locs, Pt.cells, Pt.slots] at Y' l' k'' n'' st' B
  subst l' k'' n''
  exact ((k v F' hQ').2 T' _ S Y' (N.app N') (A.back hF hG hN B (k v F' hQ').1)).via fun t q => st'.trans q
end Arrs
/-! ## own kit, part 5: own, interface and nest calls -/
section Calls
variable {p : Program} {l : Launch} {e : Env} {R : Room} {s : State} {m : MethodId} {args : Array Value} {below : List Frame} {meth : Method} {c : Code} {Z : State} {a0 : Array Value} {h0 hS : Heap} {M : OMode} {s0 : State} {F0 : OHp} {rc rs : Nat} {Q : Option Value → OHp → Prop} {H : OHp} {cells slots : Nat} {y : MethodName} {code : ByteArray} {maxL : Nat} {ret : Option FieldType} {pc : Nat} {Ls : Array Slot} {st : List Value}
theorem nf_inst (X : Cx p s m meth c Z y code maxL ret) {y' : MethodName} {n : Nat} (w : (Jvm.Cond.instantiable y'.cls n).before a0 Z = true) : NotFace s y' := fun r0 hn => by
  obtain ⟨c2, k2, i1, i2, -, i4, -⟩ := Cond.instantiable_spec (mvT (args := #[]) X.2.2.2.2.2.2.2 w)
  have hc := findClass_of_methodNamed hn
  cases hc.symm.trans i1
  refine ⟨k2, i2, ?_⟩
  cases q : k2.isInterface
  · rfl
  · rw [q] at i4; cases i4
theorem Goes.callP (X : Cx p s m meth c Z y code maxL ret) {index : Nat} {y' : MethodName} {code' : ByteArray} {maxL' : Nat} {ret' : Option FieldType} {rm : Room} {argsL : List Value} {a : Addr} {C : String} {F G : OHp} {Q' : Option Value → OHp → Prop} (W : Nat) (i : Nat) (ix rx : List Nat) {fs : List OFld} {tg : Nat} (hi : H[i]? = some (a, tg, Sum.inl (C, fs))) (D : Does l Z a0 h0 y' code' maxL' ret' rm (.ref a :: argsL).toArray F Q') (w1 : (Jvm.Cond.methodLink y.cls index y').before a0 Z = true) (w2 : (Jvm.Cond.instanceMethod y').before a0 Z = true) (w5 : (Jvm.Cond.privateMethod y').before a0 Z = true) (nf : NotFace s y') (w3 : (Jvm.Cond.initialized y'.cls).before a0 Z = true) (w4 : (Jvm.Cond.code y' code' maxL' ret').before a0 Z = true) {ps : List FieldType} {r : Option FieldType} (hpd : parseMethodDescriptor y'.desc = some ⟨ps, r⟩) (hlen : argsL.length = ps.length) {stk : List Value} (hstk : stk = argsL.reverse ++ .ref a :: st) (hsize : Ls.size = maxL) (hF : ix.map (fun i => H[i]?) = F.map some) (hG : rx.map (fun i => H[i]?) = G.map some) (k : ∀ v F', Q' v F' → own_tg F F' G ∧ Goes p l e R s m args below meth c Z a0 M s0 h0 hS F0 rc rs Q (F' ++ G) (cells + rm.cells) (slots + rm.slots) (mkF m (pc + 3) Ls (v.toList ++ st))) (hy : y'.cls ≠ "java/lang/invoke/MethodHandle" ∧ y'.cls ≠ "java/lang/invoke/VarHandle" := by decide) (hN : (ix ++ rx).Nodup := by decide) (hd : oAt code pc (.invokevirtual index, 3) = true := by decide +kernel) (hfr : rm.frames + 1 ≤ R.frames := by decide) (hW : (st.map fun v => v.category).sum = W := by rfl) (hlo : W + (maxL' + 11) + rm.locals ≤ R.locals := by decide) (hce : cells + rm.cells ≤ R.cells := by decide) (hsl : slots + rm.slots ≤ R.slots := by decide) : Goes p l e R s m args below meth c Z a0 M s0 h0 hS F0 rc rs Q H cells slots (mkF m pc Ls stk) := fun T locs S Y N A => by
  subst hstk hW
  have NN := List.nodup_append.mp hN
  have hZ := X.2.2.2.2.2.2.2
  obtain ⟨cell, hcell, hobj⟩ := (A.at hi : OKo Z a0 T.heap a C fs).1.cell
  obtain ⟨mk, methM, hnamed, hmethM, hstM, habM⟩ := Cond.instanceMethod_spec (mvT (args := args) hZ w2)
  obtain ⟨methM', cM, hmethM', -, -, -, -, -, -, hsigM⟩ := Cond.code_spec hnamed (mvT (args := args) hZ w4)
  cases hmethM.symm.trans hmethM'
  obtain ⟨kP, hkP, hkPi⟩ := nf mk hnamed
  have hpriv : s.PrivateAt y' := Cond.privateMethod_at (mvP hZ w5 (args := #[]))
  have hselP : selectMethod e.platform s.vm cell.cls mk = .method mk := selectMethod_private hmethM (hpriv mk methM hnamed hmethM)
  obtain ⟨vm₁, X₁, hstep₁⟩ := Y.invokevirtual X.1 X.2.2.2.1 (mvT (args := args) hZ w1) hnamed hmethM hstM hkP hkPi hy (a := a) (cell := cell) hcell hobj hselP hmethM habM hkP hkPi (g := mkF m pc Ls (argsL.reverse ++ .ref a :: st)) rfl (argsL := argsL) (rest := st) (lenOf hpd hlen _ hsigM) rfl (hb X.2.1 (oAt.dec hd))
  obtain ⟨v, ⟨T', L', k', n'⟩, Y', ⟨Lc, ⟨N', F', hQ', B⟩, l', k'', n''⟩, st'⟩ := (backOf (args := args) (W := (st.map fun v => v.category).sum) (Q := fun v h' L => Fr h0.size L ∧ ∃ F', Q' v F' ∧ Hp Z a0 none h0 T.heap F h' F') (D [] T.heap ((A.sub ix hF NN.1).enter)) hZ w4 w3 hfr hlo) m meth c ⟨T.setVm vm₁, locs, cells, slots⟩ (mkF m pc Ls st) (.invokevirtual index) mk (.ref a :: argsL).toArray X₁ rfl (hsize.trans X.2.2.1.symm) (hb X.2.1 (oAt.dec hd)) (by show 2 * 0 + (st.map fun v => v.category).sum ≤ _; omega) (X₁.named hnamed) ⟨rfl, rfl, hce, hsl⟩
  dsimp only [Pt.U, Pt.locs, Pt.cells, Pt.slots] at Y' l' k'' n'' st' B
  subst l' k'' n''
  exact ((k v F' hQ').2 T' _ S Y' (N.app N') (A.back hF hG hN B (k v F' hQ').1)).via fun t q => (hstep₁ _ fun acts => by rw [doInvoke_state]; exact Steps.refl _).trans (st'.trans q)
theorem Goes.callI (X : Cx p s m meth c Z y code maxL ret) {index count : Nat} {xi z' : MethodName} {code' : ByteArray} {maxL' : Nat} {ret' : Option FieldType} {rm : Room} {argsL : List Value} {a : Addr} {C : String} {F G : OHp} {Q' : Option Value → OHp → Prop} (W : Nat) (i : Nat) (ix rx : List Nat) {fs : List OFld} {tg : Nat} (hi : H[i]? = some (a, tg, Sum.inl (C, fs))) (D : Does l Z a0 h0 z' code' maxL' ret' rm (.ref a :: argsL).toArray F Q') (w1 : (Jvm.Cond.methodLink y.cls index xi).before a0 Z = true) (w2 : (Jvm.Cond.declares xi).before a0 Z = true) (w5 : (Jvm.Cond.interfaceMethod xi.cls xi.cls xi.name xi.desc).before a0 Z = true) (w6 : (Jvm.Cond.selects C xi z').before a0 Z = true) (w7 : (Jvm.Cond.instanceMethod z').before a0 Z = true) (w8 : (Jvm.Cond.publicMethod z').before a0 Z = true) (w9 : (Jvm.Cond.unhidden C xi.name xi.desc).before a0 Z = true) (w10 : (Jvm.Cond.castable C xi.cls).before a0 Z = true) (w3 : (Jvm.Cond.initialized z'.cls).before a0 Z = true) (w4 : (Jvm.Cond.code z' code' maxL' ret').before a0 Z = true) {ps : List FieldType} {r : Option FieldType} (hpd : parseMethodDescriptor xi.desc = some ⟨ps, r⟩) (hlen : argsL.length = ps.length) {stk : List Value} (hstk : stk = argsL.reverse ++ .ref a :: st) (hsize : Ls.size = maxL) (hF : ix.map (fun i => H[i]?) = F.map some) (hG : rx.map (fun i => H[i]?) = G.map some) (k : ∀ v F', Q' v F' → own_tg F F' G ∧ Goes p l e R s m args below meth c Z a0 M s0 h0 hS F0 rc rs Q (F' ++ G) (cells + rm.cells) (slots + rm.slots) (mkF m (pc + 5) Ls (v.toList ++ st))) (hy : xi.cls ≠ "java/lang/invoke/MethodHandle" ∧ xi.cls ≠ "java/lang/invoke/VarHandle" := by decide) (hN : (ix ++ rx).Nodup := by decide) (hfc : ((Jvm.Cond.interfaceMethod xi.cls xi.cls xi.name xi.desc).onTables && (Jvm.Cond.interfaceMethod xi.cls xi.cls xi.name xi.desc).keepsFace) = true := by rfl) (hd : oAt code pc (.invokeinterface index count, 5) = true := by decide +kernel) (hfr : rm.frames + 1 ≤ R.frames := by decide) (hW : (st.map fun v => v.category).sum = W := by rfl) (hlo : W + (maxL' + 11) + rm.locals ≤ R.locals := by decide) (hce : cells + rm.cells ≤ R.cells := by decide) (hsl : slots + rm.slots ≤ R.slots := by decide) : Goes p l e R s m args below meth c Z a0 M s0 h0 hS F0 rc rs Q H cells slots (mkF m pc Ls stk) := fun T locs S Y N A => by
  subst hstk hW
  have NN := List.nodup_append.mp hN
  have hZ := X.2.2.2.2.2.2.2
  obtain ⟨cq, kq, qa, qb, qc⟩ := isOf (T := T) hZ rfl (A.at hi).1
  obtain ⟨v, vm1, ⟨T', L', k', n'⟩, -, Y', ⟨Lc, ⟨N', F', hQ', B⟩, l', k'', n''⟩, st'⟩ := Y.interfaceBack X.1 (xi := xi) (y := z') X.2.2.2.1 (mvT hZ w1) (mvT hZ w2) (mvT hZ w5 hfc) (mvT hZ w6) (mvT hZ w7) (mvT hZ w8) (mvT hZ w9) (mvT hZ w10) hy
    (backOf (W := (st.map fun v => v.category).sum) (Q := fun v h' L => Fr h0.size L ∧ ∃ F', Q' v F' ∧ Hp Z a0 none h0 T.heap F h' F') (D [] T.heap ((A.sub ix hF NN.1).enter)) hZ w4 w3 hfr hlo) qa qb qc (g := mkF m pc Ls (argsL.reverse ++ .ref a :: st)) rfl (hsize.trans X.2.2.1.symm) (Steps.refl _) (argsL := argsL) (rest := st) (lenOf hpd hlen) rfl (by show 2 * 0 + _ ≤ _; omega) (hb X.2.1 (oAt.dec hd)) (fun _ _ => ⟨rfl, rfl, hce, hsl⟩)
  dsimp only [Pt.U, Pt.locs, Pt.cells, Pt.slots] at Y' l' k'' n'' st' B
  subst l' k'' n''
  exact ((k v F' hQ').2 T' _ S Y' (N.app N') (A.back hF hG hN B (k v F' hQ').1)).via fun t q => st'.trans q
theorem Goes.callSN (X : Cx p s m meth c Z y code maxL ret) {index : Nat} {host : String} {y' : MethodName} {code' : ByteArray} {maxL' : Nat} {ret' : Option FieldType} {rm : Room} {argsL : List Value} {F G : OHp} {Q' : Option Value → OHp → Prop} (W : Nat) (ix rx : List Nat) (D : Does l Z a0 h0 y' code' maxL' ret' rm argsL.toArray F Q') (w1 : (Jvm.Cond.methodLinkNest y.cls index y' host).before a0 Z = true) (w2 : (Jvm.Cond.static y').before a0 Z = true) (w3 : (Jvm.Cond.initialized y'.cls).before a0 Z = true) (w4 : (Jvm.Cond.code y' code' maxL' ret').before a0 Z = true) {ps : List FieldType} {r : Option FieldType} (hpd : parseMethodDescriptor y'.desc = some ⟨ps, r⟩) (hlen : argsL.length = ps.length) {stk : List Value} (hstk : stk = argsL.reverse ++ st) (hsize : Ls.size = maxL) (hF : ix.map (fun i => H[i]?) = F.map some) (hG : rx.map (fun i => H[i]?) = G.map some) (k : ∀ v F', Q' v F' → own_tg F F' G ∧ Goes p l e R s m args below meth c Z a0 M s0 h0 hS F0 rc rs Q (F' ++ G) (cells + rm.cells) (slots + rm.slots) (mkF m (pc + 3) Ls (v.toList ++ st))) (hy : y'.cls ≠ "java/lang/invoke/MethodHandle" ∧ y'.cls ≠ "java/lang/invoke/VarHandle" := by decide) (hN : (ix ++ rx).Nodup := by decide) (hd : oAt code pc (.invokestatic index, 3) = true := by decide +kernel) (hfr : rm.frames + 1 ≤ R.frames := by decide) (hW : (st.map fun v => v.category).sum = W := by rfl) (hlo : W + (maxL' + 11) + rm.locals ≤ R.locals := by decide) (hce : cells + rm.cells ≤ R.cells := by decide) (hsl : slots + rm.slots ≤ R.slots := by decide) : Goes p l e R s m args below meth c Z a0 M s0 h0 hS F0 rc rs Q H cells slots (mkF m pc Ls stk) := fun T locs S Y N A => by
  subst hstk hW
  have NN := List.nodup_append.mp hN
  have hZ := X.2.2.2.2.2.2.2
  obtain ⟨v, vm1, ⟨T', L', k', n'⟩, -, Y', ⟨Lc, ⟨N', F', hQ', B⟩, l', k'', n''⟩, st'⟩ := RoadKit.callSN Y X.1 (y := y') X.2.2.2.1 (Cond.methodLinkNest_wide hZ w1 :) (mvT hZ w2) (mvT hZ w3) (mvT hZ w4) hy
    (backOf (W := (st.map fun v => v.category).sum) (Q := fun v h' L => Fr h0.size L ∧ ∃ F', Q' v F' ∧ Hp Z a0 none h0 T.heap F h' F') (D [] T.heap ((A.sub ix hF NN.1).enter)) hZ w4 w3 hfr hlo) (g := mkF m pc Ls (argsL.reverse ++ st)) rfl (hsize.trans X.2.2.1.symm) (argsL := argsL) (rest := st) (lenOf hpd hlen) rfl (by show 2 * 0 + _ ≤ _; omega) (hb X.2.1 (oAt.dec hd)) (fun _ _ => ⟨rfl, rfl, hce, hsl⟩)
  dsimp only [Pt.U, Pt.locs, Pt.cells, Pt.slots] at Y' l' k'' n'' st' B
  subst l' k'' n''
  exact ((k v F' hQ').2 T' _ S Y' (N.app N') (A.back hF hG hN B (k v F' hQ').1)).via fun t q => st'.trans q
end Calls
section More
variable {p : Program} {l : Launch} {e : Env} {R : Room} {s : State} {m : MethodId} {args : Array Value} {below : List Frame} {meth : Method} {c : Code} {Z : State} {a0 : Array Value} {h0 hS : Heap} {M : OMode} {s0 : State} {F0 : OHp} {rc rs : Nat} {Q : Option Value → OHp → Prop} {H : OHp} {cells slots : Nat} {y : MethodName} {code : ByteArray} {maxL : Nat} {ret : Option FieldType} {pc : Nat} {Ls : Array Slot} {st : List Value}
theorem Goes.ldcJ (X : Cx p s m meth c Z y code maxL ret) {index : Nat} {v : Int64} (w : (Jvm.Cond.constantLong y.cls index v).before a0 Z = true) (k : Goes p l e R s m args below meth c Z a0 M s0 h0 hS F0 rc rs Q H cells slots (mkF m (pc + 3) Ls (.long v :: st))) (hd : oAt code pc (.ldc2_w index, 3) = true := by decide +kernel) : Goes p l e R s m args below meth c Z a0 M s0 h0 hS F0 rc rs Q H cells slots (mkF m pc Ls st) := fun T locs S Y N A =>
  (k T locs S Y N A).via fun t r => Y.ldc2J X.1 X.2.2.2.1 (mvT X.2.2.2.2.2.2.2 w) rfl (hb X.2.1 (oAt.dec hd)) r
/-- 'b ? 1 : 0' as javac writes it -/
theorem Goes.bool1 (X : Cx p s m meth c Z y code maxL ret) {cd : ClassFile.Cond} {o o2 : Int} {pc' pc2 : Nat} {x : Int32} (h1 : oAt code (pc + 3) (.iconst 1, 1) = true) (h2 : oAt code (pc + 4) (.goto o2, 3) = true) (h3 : oAt code pc' (.iconst 0, 1) = true) (h4 : pc' + 1 = pc2) (k : ∀ b : Int32, b = (if ifCond.holds cd x = true then 0 else 1) → Goes p l e R s m args below meth c Z a0 M s0 h0 hS F0 rc rs Q H cells slots (mkF m pc2 Ls (.int b :: st))) (hd : oAt code pc (.ifCond cd o, 3) = true := by decide +kernel) (ho : 0 ≤ (pc : Int) + o := by decide) (hp : ((pc : Int) + o).toNat = pc' := by decide) (ho2 : 0 ≤ ((pc + 4 : Nat) : Int) + o2 := by decide) (hp2 : (((pc + 4 : Nat) : Int) + o2).toNat = pc2 := by decide) : Goes p l e R s m args below meth c Z a0 M s0 h0 hS F0 rc rs Q H cells slots (mkF m pc Ls (.int x :: st)) := by
  subst h4
  refine Goes.if1 X (fun q => ?_) (fun q => ?_) hd ho hp
  · exact Goes.run X [(.iconst 0, 1)] rfl (k 0 (by rw [if_pos q])) (by simp [oBlk, h3]) rfl
  · exact Goes.run X [(.iconst 1, 1)] rfl (Goes.goto X (k 1 (by rw [if_neg (by rw [q]; simp)])) h2 ho2 hp2) (by simp [oBlk, h1]) rfl
end More
section Up
variable {p : Program} {l : Launch} {e : Env} {R : Room} {s : State} {m : MethodId} {args : Array Value} {below : List Frame} {meth : Method} {c : Code} {Z : State} {a0 : Array Value} {h0 hS : Heap} {M : OMode} {s0 : State} {F0 : OHp} {rc rs : Nat} {Q : Option Value → OHp → Prop} {H : OHp} {cells slots : Nat} {y : MethodName} {code : ByteArray} {maxL : Nat} {ret : Option FieldType} {pc : Nat} {Ls : Array Slot} {st : List Value}
theorem Goes.tsw (X : Cx p s m meth c Z y code maxL ret) {dflt low high : Int} {offs : Array Int} {len pc' : Nat} {o : Int} {i : Int32} (hin : ¬ (i.toInt < low ∨ i.toInt > high)) (hoff : offs[(i.toInt - low).toNat]? = some o) (k : Goes p l e R s m args below meth c Z a0 M s0 h0 hS F0 rc rs Q H cells slots (mkF m pc' Ls st)) (hd : oAt code pc (.tableswitch dflt low high offs, len) = true := by decide +kernel) (ho : 0 ≤ (pc : Int) + o := by decide) (hp : ((pc : Int) + o).toNat = pc' := by decide) : Goes p l e R s m args below meth c Z a0 M s0 h0 hS F0 rc rs Q H cells slots (mkF m pc Ls (.int i :: st)) := fun T locs S Y N A =>
  (k T locs S Y N A).via fun t r => XS.tswIn Y.here X.1 rfl (pc0 := pc) rfl (hb X.2.1 (oAt.dec hd)) rfl hin hoff ho hp r
/-- super.m(..) -/
theorem Goes.callU (X : Cx p s m meth c Z y code maxL ret) {index : Nat} {y' : MethodName} {code' : ByteArray} {maxL' : Nat} {ret' : Option FieldType} {rm : Room} {argsL : List Value} {a : Addr} {C : String} {F G : OHp} {Q' : Option Value → OHp → Prop} (W : Nat) (i : Nat) (ix rx : List Nat) {fs : List OFld} {tg : Nat} (hi : H[i]? = some (a, tg, Sum.inl (C, fs))) (D : Does l Z a0 h0 y' code' maxL' ret' rm (.ref a :: argsL).toArray F Q') (w1 : (Jvm.Cond.methodLink y.cls index y').before a0 Z = true) (w2 : (Jvm.Cond.instanceMethod y').before a0 Z = true) (w5 : (Jvm.Cond.superclass y.cls y'.cls).before a0 Z = true) (w6 : (Jvm.Cond.sameMethod y'.cls y'.cls y'.name y'.desc).before a0 Z = true) (hn : y'.name ≠ "<init>") (w3 : (Jvm.Cond.initialized y'.cls).before a0 Z = true) (w4 : (Jvm.Cond.code y' code' maxL' ret').before a0 Z = true) {ps : List FieldType} {r : Option FieldType} (hpd : parseMethodDescriptor y'.desc = some ⟨ps, r⟩) (hlen : argsL.length = ps.length) {stk : List Value} (hstk : stk = argsL.reverse ++ .ref a :: st) (hsize : Ls.size = maxL) (hF : ix.map (fun i => H[i]?) = F.map some) (hG : rx.map (fun i => H[i]?) = G.map some) (k : ∀ v F', Q' v F' → own_tg F F' G ∧ Goes p l e R s m args below meth c Z a0 M s0 h0 hS F0 rc rs Q (F' ++ G) (cells + rm.cells) (slots + rm.slots) (mkF m (pc + 3) Ls (v.toList ++ st))) (hN : (ix ++ rx).Nodup := by decide) (hd : oAt code pc (.invokespecial index, 3) = true := by decide +kernel) (hfr : rm.frames + 1 ≤ R.frames := by decide) (hW : (st.map fun v => v.category).sum = W := by rfl) (hlo : W + (maxL' + 11) + rm.locals ≤ R.locals := by decide) (hce : cells + rm.cells ≤ R.cells := by decide) (hsl : slots + rm.slots ≤ R.slots := by decide) : Goes p l e R s m args below meth c Z a0 M s0 h0 hS F0 rc rs Q H cells slots (mkF m pc Ls stk) := fun T locs S Y N A => by
  subst hstk hW
  have NN := List.nodup_append.mp hN
  have hZ := X.2.2.2.2.2.2.2
  obtain ⟨v, vm1, ⟨T', L', k', n'⟩, -, Y', ⟨Lc, ⟨N', F', hQ', B⟩, l', k'', n''⟩, st'⟩ := superBack Y X.1 hZ (y := y') X.2.2.2.1 w1 w6 w2 w5 hn
    (backOf (W := (st.map fun v => v.category).sum) (Q := fun v h' L => Fr h0.size L ∧ ∃ F', Q' v F' ∧ Hp Z a0 none h0 T.heap F h' F') (D [] T.heap ((A.sub ix hF NN.1).enter)) hZ w4 w3 hfr hlo) rfl (Ins.self (A.at hi : OKo Z a0 T.heap a C fs).1) (g := mkF m pc Ls (argsL.reverse ++ .ref a :: st)) rfl (hsize.trans X.2.2.1.symm) w4 (argsL := argsL) (rest := st) (lenOf hpd hlen) rfl (by show 2 * 0 + _ ≤ _; omega) (hb X.2.1 (oAt.dec hd)) (fun _ _ => ⟨rfl, rfl, hce, hsl⟩)
  dsimp only [Pt.U, Pt.locs, Pt.cells, Pt.slots] at Y' l' k'' n'' st' B
  subst l' k'' n''
  exact ((k v F' hQ').2 T' _ S Y' (N.app N') (A.back hF hG hN B (k v F' hQ').1)).via fun t q => st'.trans q
/-- one that some 'selects' word shows to be no interface finds its own method -/
theorem own_same {C : String} {y1 z1 y' : MethodName} (w1 : (Jvm.Cond.selects C z1 y1).before a0 Z = true) (hc : y1.cls = y'.cls) (w2 : (Jvm.Cond.instanceMethod y').before a0 Z = true) (hx : y'.cls ≠ "java/lang/invoke/MethodHandle" ∧ y'.cls ≠ "java/lang/invoke/VarHandle") : (Jvm.Cond.sameMethod y'.cls y'.cls y'.name y'.desc).before a0 Z = true := by
  obtain ⟨c1, r1, m1, -, -, q3, -, kP, hkP, hkPi⟩ := Cond.selects_spec w1
  obtain ⟨mk, methM, hnamed, hmethM, hstM, habM⟩ := Cond.instanceMethod_spec w2
  have e1 := findClass_of_methodNamed q3
  have e2 := findClass_of_methodNamed hnamed
  rw [hc] at e1
  have e3 : m1.cls = mk.cls := Option.some.inj (e1.symm.trans e2)
  rw [e3] at hkP
  have hf := State.methodFound?_of_named hnamed hx
  have hnamed' : Z.methodNamed? ⟨y'.cls, y'.name, y'.desc⟩ = some mk := hnamed
  simp [Cond.before, Cond.holds, Cond.value, e2, hkP, hkPi, hf, hnamed']
end Up
/-! ## own kit, wide form, part 6: String constants; callees that load them -/
section WideLaws
variable {p : Program} {l : Launch} {e : Env} {R : Room} {m : MethodId} {args : Array Value} {below : List Frame} {meth : Method} {c : Code} {Z : State} {a0 : Array Value} {EL : List (String × Nat)} {vmS vm0 vm1 : Vm} {k0 k1 : Nat} {s0 : State} {h0 hS h h' : Heap} {F0 : OHp} {rc rs : Nat} {Q : Option Value → OHp → Prop} {H : OHp} {cells slots : Nat} {y : MethodName} {code : ByteArray} {maxL : Nat} {ret : Option FieldType} {pc : Nat} {Ls : Array Slot} {st : List Value}
theorem Hp.enterW {F : OHp} (A : Hp Z a0 (some (EL, vmS, vm0, k0)) h0 hS F0 h F) : Hp Z a0 (some (EL, vm0, vm0, h.size)) h0 h F h F := by
  obtain ⟨E, K, ⟨w, hZ, C, hk⟩, G, I⟩ := A
  exact ⟨E, Keep.refl _ _, ⟨w, hZ, CHr.refl C.1, Nat.le_refl _⟩, fun i x hi => ⟨(G i x hi).1, fun t => ⟨((G i x hi).2.1 t).1, Or.inl (own_wsOf (List.mem_of_getElem? hi) t), ((G i x hi).2.1 t).2.2⟩, fun t => Or.inl (own_ksOf (List.mem_of_getElem? hi) (Or.inr t))⟩, I⟩
/-- other tables, the same heap -/
theorem Hp.vm (A : Hp Z a0 (some (EL, vmS, vm0, k0)) h0 hS F0 h H) (hZ : Z.Warmed39 vm1) (C : CHr Z EL vm0 h vm1 h) : Hp Z a0 (some (EL, vmS, vm1, k0)) h0 hS F0 h H := by
  obtain ⟨E, K, ⟨w, -, C0, hk⟩, F, I⟩ := A
  exact ⟨E, K, ⟨w, hZ, C0.trans C, hk⟩, fun i x hi => ⟨(F i x hi).1, fun t => ⟨((F i x hi).2.1 t).1, ((F i x hi).2.1 t).2.1, C.safe (F i x hi).1.lt ((F i x hi).2.1 t).2.2⟩, (F i x hi).2.2⟩, I⟩
theorem Hp.backW {F F' G : OHp} {ix rx : List Nat} (A : Hp Z a0 (some (EL, vmS, vm0, k0)) h0 hS F0 h H) (hF : ix.map (fun i => H[i]?) = F.map some) (hG : rx.map (fun i => H[i]?) = G.map some) (hN : (ix ++ rx).Nodup) (B : Hp Z a0 (some (EL, vm0, vm1, k1)) h0 h F h' F')
    (hT : own_tg F F' G) : Hp Z a0 (some (EL, vmS, vm1, h'.size)) h0 hS F0 h' (F' ++ G) := by
  have N := List.nodup_append.mp hN
  have AG := A.sub rx hG N.2.1
  have ws := own_wsSafe A hF
  have cr := own_cross (F' := F') A hF hG hN (fun x hx t => by obtain ⟨k, hk⟩ := List.mem_iff_getElem?.mp hx; exact ((B.2.2.2.1 k x hk).2.1 t).2.1) (fun x hx t => by obtain ⟨k, hk⟩ := List.mem_iff_getElem?.mp hx; exact (B.2.2.2.1 k x hk).2.2 t) hT
  have key : ∀ (k : Nat) (x : Addr × OObj), (F' ++ G)[k]? = some x → (k < F'.length ∧ F'[k]? = some x) ∨ (F'.length ≤ k ∧ G[k - F'.length]? = some x) := fun k x hk => by
    rw [List.getElem?_append] at hk
    split at hk
    · rename_i q; exact Or.inl ⟨q, hk⟩
    · rename_i q; exact Or.inr ⟨Nat.le_of_not_lt q, hk⟩
  refine ⟨B.1, A.2.1.trans B.2.1 fun x hx => (ws x hx).2.2, ⟨B.2.2.1.1, B.2.2.1.2.1, A.2.2.1.2.2.1.trans B.2.2.1.2.2.1, Nat.le_refl _⟩, fun k x hk => ?_, fun k1 k2 x y g1 g2 e t => ?_⟩
  · rcases key k x hk with ⟨-, q⟩ | ⟨-, q⟩
    · obtain ⟨r1, r2, r3⟩ := B.2.2.2.1 k x q
      refine ⟨r1, fun t => ⟨(r2 t).1, ?_, (r2 t).2.2⟩, fun t => (r3 t).elim (own_ks A hF _) fun z => Or.inr (Nat.le_trans A.2.1.1 z)⟩
      exact (r2 t).2.1.elim (fun z => (ws _ z).2.2) fun z => Or.inr (Nat.le_trans A.2.1.1 z)
    · obtain ⟨r1, r2, r3⟩ := AG.2.2.2.1 _ x q
      refine ⟨r1.keep B.2.1 fun z => ?_, fun t => ⟨(r2 t).1, (r2 t).2.1, B.2.2.1.2.2.1.safe r1.lt (r2 t).2.2⟩, r3⟩
      obtain ⟨w, hw, e, tw⟩ := own_wsOf_e z
      obtain ⟨k1, p1⟩ := List.mem_iff_getElem?.mp hw
      obtain ⟨i, pi, hi⟩ := own_pick hF k1 w p1
      obtain ⟨j, pj, hj⟩ := own_pick hG _ x q
      have := A.2.2.2.2 i j w x hi hj e (Or.inl tw)
      subst this
      exact N.2.2 i (List.mem_of_getElem? pi) i (List.mem_of_getElem? pj) rfl
  · rcases key k1 x g1 with ⟨l1, q1⟩ | ⟨l1, q1⟩ <;> rcases key k2 y g2 with ⟨l2, q2⟩ | ⟨l2, q2⟩
    · exact B.2.2.2.2 _ _ _ _ q1 q2 e t
    · exact absurd e (cr x (List.mem_of_getElem? q1) y (List.mem_of_getElem? q2) t)
    · exact absurd e.symm (cr y (List.mem_of_getElem? q2) x (List.mem_of_getElem? q1) t.symm)
    · have := AG.2.2.2.2 _ _ _ _ q1 q2 e t; omega
/-- the premise on a callee that loads constants, out of its contract -/
theorem own_backW {y' : MethodName} {code' : ByteArray} {maxL' : Nat} {ret' : Option FieldType} {rm : Room} {len W : Nat} {as' : Array Value} {F : OHp} {Q' : Option Value → OHp → Prop}
    (D : DoesW l Z a0 EL h0 y' code' maxL' ret' rm as' F Q') (A : Hp Z a0 (some (EL, vmS, vm0, k0)) h0 hS F0 h F) (wc : (Jvm.Cond.code y' code' maxL' ret').before a0 Z = true) (wz : (Jvm.Cond.initialized y'.cls).before a0 Z = true) (hf : rm.frames + 1 ≤ R.frames) (hl : W + (maxL' + 11) + rm.locals ≤ R.locals) :
    BackS l R p e below (s0.setVm vm0) args y' len W (fun P a => a = as' ∧ P.U.heap = h ∧ P.cells + rm.cells ≤ R.cells ∧ P.slots + rm.slots ≤ R.slots)
      (fun P _ v B => ∃ L, (Fr h0.size L ∧ ∃ F' k1, Q' v F' ∧ ∃ vmE, Z.Warmed39 vmE ∧ CHr Z EL vm0 h vmE h ∧ Hp Z a0 (some (EL, vmE, B.U.vm, k1)) h0 h F B.U.heap F') ∧ B.locs = P.locs ++ L ∧ B.cells = P.cells + rm.cells ∧ B.slots = P.slots + rm.slots) := by
  have hZ := A.2.2.1.2.1
  have w := A.2.2.1.1
  have H := A.2.2.1.2.2.1.1
  exact BackS.of_freeW (bytes := code') (maxL := maxL') (ret := ret') (E := fun _ first o t L k n => k = rm.cells ∧ n = rm.slots ∧ ∃ v, o = .returned v ∧ Fr h0.size L ∧ ∃ F' k1, Q' v F' ∧ Hp Z a0 (some (EL, first.vm, t.vm, k1)) h0 h F t.heap F') (D [] h) hf hl
    (fun m meth c P a Y hp => have hU : Z.Warmed39 P.U.vm := wtrans (s := s0.setVm vm0) hZ Y.warmed
      ⟨by show (Cond.and _ .tt).before a P.U = true; rw [Cond.before_and, mv hU wc]; rfl, mv hU wc, mv hU wz, hp.2.2.1, hp.2.2.2⟩)
    (fun m meth c P a g mk Y hp => ⟨hp.1, wtrans (s := s0.setVm vm0) hZ Y.warmed, hp.2.1, (A.vm (wtrans (s := s0.setVm vm0) hZ Y.warmed) (CHv.at Y hZ w H)).enterW⟩) (fun _ _ _ _ _ _ _ _ _ => trivial)
    (fun _ _ _ _ ⟨v, L, h1, h2, h3⟩ => ⟨L, _, _, h3, rfl, rfl, v, h1, h2⟩)
    (fun m meth c P a g mk v t L k n Y hp _ _ ⟨e1, e2, v', e3, e4, F', k1, e5, e6⟩ => by
      cases e3; subst e1 e2
      exact ⟨L, ⟨e4, F', k1, e5, P.U.vm, wtrans (s := s0.setVm vm0) hZ Y.warmed, CHv.at Y hZ w H, e6⟩, rfl, rfl, rfl⟩)
theorem own_cxW (X : Cx p (s0.setVm vm0) m meth c Z y code maxL ret) (hW : (s0.setVm vm0).Warmed39 vm1) (hZ : Z.Warmed39 vm1) : Cx p (s0.setVm vm1) m meth c Z y code maxL ret :=
  ⟨X.1, X.2.1, X.2.2.1, by show vm1.findClass y.cls = _; rw [hW.alike.findClass]; exact X.2.2.2.1, X.2.2.2.2.1, X.2.2.2.2.2.1, X.2.2.2.2.2.2.1, hZ⟩
/-- a static call of a method that loads constants -/
theorem Goes.callSW (X : Cx p (s0.setVm vm0) m meth c Z y code maxL ret) {index : Nat} {y' : MethodName} {code' : ByteArray} {maxL' : Nat} {ret' : Option FieldType} {rm : Room} {argsL : List Value} {F G : OHp} {Q' : Option Value → OHp → Prop} (W : Nat) (ix rx : List Nat) (D : DoesW l Z a0 EL h0 y' code' maxL' ret' rm argsL.toArray F Q') (w1 : (Jvm.Cond.methodLink y.cls index y').before a0 Z = true) (w2 : (Jvm.Cond.static y').before a0 Z = true) (w3 : (Jvm.Cond.initialized y'.cls).before a0 Z = true) (w4 : (Jvm.Cond.code y' code' maxL' ret').before a0 Z = true) {ps : List FieldType} {r : Option FieldType} (hpd : parseMethodDescriptor y'.desc = some ⟨ps, r⟩) (hlen : argsL.length = ps.length) {stk : List Value} (hstk : stk = argsL.reverse ++ st) (hsize : Ls.size = maxL) (hF : ix.map (fun i => H[i]?) = F.map some) (hG : rx.map (fun i => H[i]?) = G.map some)
    (k : ∀ v F' vm1 k1, Q' v F' → Cx p (s0.setVm vm1) m meth c Z y code maxL ret → own_tg F F' G ∧ Goes p l e R (s0.setVm vm1) m args below meth c Z a0 (some (EL, vmS, vm1, k1)) s0 h0 hS F0 rc rs Q (F' ++ G) (cells + rm.cells) (slots + rm.slots) (mkF m (pc + 3) Ls (v.toList ++ st))) (hy : y'.cls ≠ "java/lang/invoke/MethodHandle" ∧ y'.cls ≠ "java/lang/invoke/VarHandle" := by decide) (hN : (ix ++ rx).Nodup := by decide) (hd : oAt code pc (.invokestatic index, 3) = true := by decide +kernel) (hfr : rm.frames + 1 ≤ R.frames := by decide) (hW : (st.map fun v => v.category).sum = W := by rfl) (hlo : W + (maxL' + 11) + rm.locals ≤ R.locals := by decide) (hce : cells + rm.cells ≤ R.cells := by decide) (hsl : slots + rm.slots ≤ R.slots := by decide) :
    Goes p l e R (s0.setVm vm0) m args below meth c Z a0 (some (EL, vmS, vm0, k0)) s0 h0 hS F0 rc rs Q H cells slots (mkF m pc Ls stk) := fun T locs S Y N A => by
  subst hstk hW
  have NN := List.nodup_append.mp hN
  have hZ := X.2.2.2.2.2.2.2
  obtain ⟨mk, hnamed⟩ := Cond.code_named (mvT (args := args) hZ w4)
  obtain ⟨methM, cM, hmethM, -, -, -, -, -, -, hsig⟩ := Cond.code_spec hnamed (mvT (args := args) hZ w4)
  obtain ⟨v, vm1, ⟨T', L', k', n'⟩, hW1, Y', hSi, hgr, ⟨Lc, ⟨N', F', k1, hQ', vmE, hZE, hCE, B⟩, l', k'', n''⟩, st'⟩ := Y.staticBackS X.1 (y := y') X.2.2.2.1 (mvT hZ w1) (mvT hZ w2) (mvT hZ w3) hnamed hmethM hsig hy
    (own_backW D (A.sub ix hF NN.1) w4 w3 hfr hlo) (g := mkF m pc Ls (argsL.reverse ++ st)) rfl (hsize.trans X.2.2.1.symm) (Steps.refl _) (argsL := argsL) (rest := st) (lenOf hpd hlen) rfl (by show 2 * 0 + _ ≤ _; omega) (hb X.2.1 (oAt.dec hd)) (fun _ _ => ⟨rfl, rfl, hce, hsl⟩)
  dsimp only [Pt.U, Pt.locs, Pt.cells, Pt.slots] at Y' l' k'' n'' st' B hSi hgr
  subst l' k'' n''
  have K := k v F' T'.vm T'.heap.size hQ' (own_cxW X hSi.1 B.2.2.1.2.1)
  exact (K.2 T' _ ⟨rfl, S.2.trans hSi (Nat.le_trans A.2.2.1.2.2.2 hgr)⟩ Y' (N.app N') ((A.vm hZE hCE).backW hF hG hN B K.1)).via fun t q => st'.trans q
/-- a constructor's call that loads constants -/
theorem Goes.callNW (X : Cx p (s0.setVm vm0) m meth c Z y code maxL ret) {index : Nat} {y' : MethodName} {code' : ByteArray} {maxL' : Nat} {rm : Room} {argsL : List Value} {a : Addr} {F G : OHp} {Q' : Option Value → OHp → Prop} (W : Nat) (ix rx : List Nat) (D : DoesW l Z a0 EL h0 y' code' maxL' none rm (.ref a :: argsL).toArray F Q') (hy1 : y'.name = "<init>") (w1 : (Jvm.Cond.methodLink y.cls index y').before a0 Z = true) (w2 : (Jvm.Cond.instanceMethod y').before a0 Z = true) (w3 : (Jvm.Cond.initialized y'.cls).before a0 Z = true) (w4 : (Jvm.Cond.code y' code' maxL' none).before a0 Z = true) {ps : List FieldType} {r : Option FieldType} (hpd : parseMethodDescriptor y'.desc = some ⟨ps, r⟩) (hlen : argsL.length = ps.length) {stk : List Value} (hstk : stk = argsL.reverse ++ .ref a :: st) (hsize : Ls.size = maxL) (hF : ix.map (fun i => H[i]?) = F.map some) (hG : rx.map (fun i => H[i]?) = G.map some)
    (k : ∀ v F' vm1 k1, Q' v F' → Cx p (s0.setVm vm1) m meth c Z y code maxL ret → own_tg F F' G ∧ Goes p l e R (s0.setVm vm1) m args below meth c Z a0 (some (EL, vmS, vm1, k1)) s0 h0 hS F0 rc rs Q (F' ++ G) (cells + rm.cells) (slots + rm.slots) (mkF m (pc + 3) Ls (v.toList ++ st))) (hy : y'.cls ≠ "java/lang/invoke/MethodHandle" ∧ y'.cls ≠ "java/lang/invoke/VarHandle" := by decide) (hN : (ix ++ rx).Nodup := by decide) (hd : oAt code pc (.invokespecial index, 3) = true := by decide +kernel) (hfr : rm.frames + 1 ≤ R.frames := by decide) (hW : (st.map fun v => v.category).sum = W := by rfl) (hlo : W + (maxL' + 11) + rm.locals ≤ R.locals := by decide) (hce : cells + rm.cells ≤ R.cells := by decide) (hsl : slots + rm.slots ≤ R.slots := by decide) :
    Goes p l e R (s0.setVm vm0) m args below meth c Z a0 (some (EL, vmS, vm0, k0)) s0 h0 hS F0 rc rs Q H cells slots (mkF m pc Ls stk) := fun T locs S Y N A => by
  subst hstk hW
  have NN := List.nodup_append.mp hN
  have hZ := X.2.2.2.2.2.2.2
  obtain ⟨v, vm1, ⟨T', L', k', n'⟩, hW1, Y', hSi, hgr, ⟨Lc, ⟨N', F', k1, hQ', vmE, hZE, hCE, B⟩, l', k'', n''⟩, st'⟩ := Y.specialBackS X.1 (y := y') hy1 X.2.2.2.1 (mvT hZ w1) (mvT hZ w2) (mvT hZ w4) hy
    (own_backW D (A.sub ix hF NN.1) w4 w3 hfr hlo) (g := mkF m pc Ls (argsL.reverse ++ .ref a :: st)) rfl (hsize.trans X.2.2.1.symm) (Steps.refl _) (a := a) (argsL := argsL) (rest := st) (lenOf hpd hlen) rfl (by show 2 * 0 + _ ≤ _; omega) (hb X.2.1 (oAt.dec hd)) (fun _ _ => ⟨rfl, rfl, hce, hsl⟩)
  dsimp only [Pt.U, Pt.locs, Pt.cells, Pt.slots] at Y' l' k'' n'' st' B hSi hgr
  subst l' k'' n''
  have K := k v F' T'.vm T'.heap.size hQ' (own_cxW X hSi.1 B.2.2.1.2.1)
  exact (K.2 T' _ ⟨rfl, S.2.trans hSi (Nat.le_trans A.2.2.1.2.2.2 hgr)⟩ Y' (N.app N') ((A.vm hZE hCE).backW hF hG hN B K.1)).via fun t q => st'.trans q
end WideLaws
section Lits
variable {p : Program} {l : Launch} {e : Env} {R : Room} {m : MethodId} {args : Array Value} {below : List Frame} {meth : Method} {c : Code} {Z : State} {a0 : Array Value} {EL : List (String × Nat)} {vmS vm0 vm1 : Vm} {k0 k1 : Nat} {s0 : State} {h0 hS h h' : Heap} {F0 : OHp} {rc rs : Nat} {Q : Option Value → OHp → Prop} {H : OHp} {cells slots : Nat} {y : MethodName} {code : ByteArray} {maxL : Nat} {ret : Option FieldType} {pc : Nat} {Ls : Array Slot} {st : List Value}
theorem Hp.lit {L : OHp} (A : Hp Z a0 (some (EL, vmS, vm0, k0)) h0 hS F0 h H) (hZ1 : Z.Warmed39 vm1) (E' : Ext h h') (C : CHr Z EL vm0 h vm1 h') (hk : k1 ≤ h'.size) (hL : ∀ x ∈ L, OK Z a0 h' x.1 x.2 ∧ x.2.1 = 2 ∧ ∀ z, Safe Z EL vm1 h' z → z ≠ x.1) : Hp Z a0 (some (EL, vmS, vm1, k1)) h0 hS F0 h' (H ++ L) := by
  obtain ⟨E, K, ⟨w, hZ, C0, hk0⟩, F, I⟩ := A
  have sf : ∀ (i : Nat) (x : Addr × OObj), H[i]? = some x → x.2.1 = 0 → Safe Z EL vm1 h' x.1 := fun i x hi t => C.safe (F i x hi).1.lt ((F i x hi).2.1 t).2.2
  have key : ∀ (k : Nat) (x : Addr × OObj), (H ++ L)[k]? = some x → (k < H.length ∧ H[k]? = some x) ∨ (H.length ≤ k ∧ x ∈ L) := fun k x hk => by
    rw [List.getElem?_append] at hk
    split at hk
    · rename_i q; exact Or.inl ⟨q, hk⟩
    · rename_i q; exact Or.inr ⟨Nat.le_of_not_lt q, List.mem_of_getElem? hk⟩
  refine ⟨⟨Nat.le_trans E.1 E'.1, fun x c hx => E'.2 x c (E.2 x c hx)⟩, K.ext E', ⟨w, hZ1, C0.trans C, hk⟩, fun k x hk => ?_, fun i j x z hi hj e t => ?_⟩
  · rcases key k x hk with ⟨-, q⟩ | ⟨-, q⟩
    · obtain ⟨r1, r2, r3⟩ := F k x q
      exact ⟨r1.ext E', fun t => ⟨(r2 t).1, (r2 t).2.1, sf k x q t⟩, r3⟩
    · obtain ⟨r1, r2, -⟩ := hL x q
      exact ⟨r1, fun t => by rw [r2] at t; exact absurd t (by decide), fun t => by rw [r2] at t; exact absurd t (by decide)⟩
  · rcases key i x hi with ⟨-, q1⟩ | ⟨-, q1⟩ <;> rcases key j z hj with ⟨-, q2⟩ | ⟨-, q2⟩
    · exact I i j x z q1 q2 e t
    · have t2 := (hL z q2).2.1
      have tx : x.2.1 = 0 := t.resolve_right (by rw [t2]; decide)
      exact absurd e ((hL z q2).2.2 _ (sf i x q1 tx))
    · have t2 := (hL x q1).2.1
      have tz : z.2.1 = 0 := t.resolve_left (by rw [t2]; decide)
      exact absurd e.symm ((hL x q1).2.2 _ (sf j z q2 tz))
    · have t1 := (hL x q1).2.1
      have t2 := (hL z q2).2.1
      rcases t with t | t
      · rw [t1] at t; exact absurd t (by decide)
      · rw [t2] at t; exact absurd t (by decide)
theorem OKa.ofArv {a : Addr} {k : ClassId} {ty : FieldType} {z : Int32} {vs : List Value} {d : Value} (A : Arv Z h a k ty z vs d) (hl : z.toNatClampNeg = vs.length) : OKa Z h a "" ty vs := by
  obtain ⟨c, A, -, hs, hz, H, G⟩ := A
  have e : c.slots.size = vs.length := hs.trans hl
  refine ⟨c, A, ?_, ?_, Or.inl rfl, fun v hv => ?_⟩
  · apply Array.ext_getElem?
    intro i
    by_cases q : i < c.slots.size
    · rw [H i q]; simp [List.getD_eq_getElem?_getD, List.getElem?_eq_getElem (e ▸ q)]
    · rw [Array.getElem?_eq_none (by omega), Array.getElem?_eq_none (by simp; omega)]
  · rw [← hl]; exact (back32 hz).2
  · obtain ⟨i, hi⟩ := List.mem_iff_getElem?.mp hv
    have hlt := (List.getElem?_eq_some_iff.mp hi).1
    have := G i (by omega)
    rw [List.getD_eq_getElem?_getD, hi] at this
    exact this
/-- a String constant of EL, read -/
theorem Goes.ldcR (X : Cx p (s0.setVm vm0) m meth c Z y code maxL ret) {index : Nat} {text : String} (n : Nat) (vs : List Value) (z : Int32) (w : (Jvm.Cond.stringLink y.cls index text).before a0 Z = true) (wS : ∀ a ∈ Bundle.stringAtoms, a.before a0 Z = true) (hmem : (y.cls, index) ∈ EL)
    (hLv : Laid Z a0 "java/lang/String" "java/lang/String" "value" "[B") (hLc : Laid Z a0 "java/lang/String" "java/lang/String" "coder" "B") (ht : (∀ c ∈ text.toList, c.toNat < 256) ∧ text.toList.map (fun c => Value.int (Jvm.Lit.byteI c.toNat.toUInt16)) = vs) (hz : ¬ z < 0) (hl : z.toNatClampNeg = vs.length) (hn : 4 * text.toList.length ≤ n)
    (k : ∀ a b vm1 k1, Cx p (s0.setVm vm1) m meth c Z y code maxL ret → Goes p l e R (s0.setVm vm1) m args below meth c Z a0 (some (EL, vmS, vm1, k1)) s0 h0 hS F0 rc rs Q (H ++ [(a, 2, Sum.inl ("java/lang/String", [("java/lang/String", "value", "[B", .ref b), ("java/lang/String", "coder", "B", .int 0)])), (b, 2, Sum.inr ("", .byte, vs))]) (cells + 2) (slots + (n + 4)) (mkF m (pc + 2) Ls (.ref a :: st)))
    (hd : oAt code pc (.ldc index, 2) = true := by decide +kernel) (hbig : n ≤ 536870912 := by decide) (hc : cells + 2 ≤ R.cells := by decide) (hsl : slots + (n + 4) ≤ R.slots := by decide) :
    Goes p l e R (s0.setVm vm0) m args below meth c Z a0 (some (EL, vmS, vm0, k0)) s0 h0 hS F0 rc rs Q H cells slots (mkF m pc Ls st) := fun T locs S Y N A => by
  obtain ⟨a, T', h', k1, b, kk, Y', e', E', hSi, hk1, hZ1, hf1, r1, r2, r3, r4, r5, r6, C, -, hne, st'⟩ := ldcCH Y X.1 X.2.2.2.2.2.2.2 X.2.2.2.1 w wS rfl S.2 A.2.2.1.2.2.2 A.2.2.1.1 hmem A.2.2.1.2.2.1.1 ht hz hl (g := mkF m pc Ls st) rfl (hb X.2.1 (oAt.dec hd)) hn hbig hc hsl
  have X' : Cx p (s0.setVm T'.vm) m meth c Z y code maxL ret := ⟨X.1, X.2.1, X.2.2.1, hf1, X.2.2.2.2.1, X.2.2.2.2.2.1, X.2.2.2.2.2.2.1, hZ1⟩
  refine (k a b T'.vm k1 X' T' locs ⟨rfl, hSi⟩ Y' N ?_).via st'
  rw [e']
  refine A.lit hZ1 E' C hk1 fun x hx => ?_
  rcases List.mem_cons.mp hx with rfl | hx
  · exact ⟨⟨r1, List.forall_mem_cons.mpr ⟨⟨hLv, ⟨.array .byte, show parseFieldDescriptor "[B" = _ from by decide +kernel⟩, r3⟩, List.forall_mem_cons.mpr ⟨⟨hLc, ⟨.byte, by decide +kernel⟩, r2⟩, fun _ q => nomatch q⟩⟩⟩, rfl, fun q s => (hne q s).1⟩
  · cases List.mem_singleton.mp hx
    exact ⟨OKa.ofArv r4 hl, rfl, fun q s => (hne q s).2⟩
/-- a String constant, not read -/
theorem Goes.ldcO (X : Cx p (s0.setVm vm0) m meth c Z y code maxL ret) {index : Nat} {text : String} (n : Nat) (w : (Jvm.Cond.stringLink y.cls index text).before a0 Z = true) (wS : ∀ a ∈ Bundle.stringAtoms, a.before a0 Z = true) (hn : 4 * text.toList.length ≤ n)
    (k : ∀ a vm1 k1, Cx p (s0.setVm vm1) m meth c Z y code maxL ret → Goes p l e R (s0.setVm vm1) m args below meth c Z a0 (some (EL, vmS, vm1, k1)) s0 h0 hS F0 rc rs Q H (cells + 2) (slots + (n + 4)) (mkF m (pc + 2) Ls (.ref a :: st)))
    (hd : oAt code pc (.ldc index, 2) = true := by decide +kernel) (hbig : n ≤ 536870912 := by decide) (hc : cells + 2 ≤ R.cells := by decide) (hsl : slots + (n + 4) ≤ R.slots := by decide) :
    Goes p l e R (s0.setVm vm0) m args below meth c Z a0 (some (EL, vmS, vm0, k0)) s0 h0 hS F0 rc rs Q H cells slots (mkF m pc Ls st) := fun T locs S Y N A => by
  obtain ⟨a, T', h', k1, Y', e', E', hSi, hk1, hZ1, hf1, C, -, st'⟩ := ldcOH Y X.1 X.2.2.2.2.2.2.2 X.2.2.2.1 w wS rfl S.2 A.2.2.1.2.2.2 A.2.2.1.1 A.2.2.1.2.2.1.1 (g := mkF m pc Ls st) rfl (hb X.2.1 (oAt.dec hd)) hn hbig hc hsl
  have X' : Cx p (s0.setVm T'.vm) m meth c Z y code maxL ret := ⟨X.1, X.2.1, X.2.2.1, hf1, X.2.2.2.2.1, X.2.2.2.2.2.1, X.2.2.2.2.2.2.1, hZ1⟩
  refine (k a T'.vm k1 X' T' locs ⟨rfl, hSi⟩ Y' N ?_).via st'
  rw [e']
  have q := A.lit (L := []) hZ1 E' C hk1 (fun x hx => nomatch hx)
  rwa [List.append_nil] at q
end Lits
theorem Hp.startW (s : State) (a0 : Array Value) (EL : List (String × Nat)) (E : EW s a0 EL) (hh : ∀ p ∈ EL, Jvm.Lit.constHeld s p.1 p.2) (hcw : Jvm.Lit.compactW.before a0 s = true) (wa : (Jvm.Cond.arrayClass .byte).before a0 s = true) (wi : (Jvm.Cond.instantiable "java/lang/String" 4).before a0 s = true) : Hp s a0 (some (EL, s.vm, s.vm, s.heap.size)) s.heap s.heap [] s.heap [] :=
  ⟨⟨Nat.le_refl _, fun _ _ q => q⟩, Keep.refl _ _, ⟨E, State.Warmed39.refl s, CHr.refl (CHv.start E hh hcw wa wi), Nat.le_refl _⟩, fun i x q => by simp at q, fun i j x y q => by simp at q⟩
/-! ## own kit, part 6: tests of a class, switches -/
section Tests
variable {p : Program} {l : Launch} {e : Env} {R : Room} {s : State} {m : MethodId} {args : Array Value} {below : List Frame} {meth : Method} {c : Code} {Z : State} {a0 : Array Value} {h0 hS : Heap} {M : OMode} {s0 : State} {F0 : OHp} {rc rs : Nat} {Q : Option Value → OHp → Prop} {H : OHp} {cells slots : Nat} {y : MethodName} {code : ByteArray} {maxL : Nat} {ret : Option FieldType} {pc : Nat} {Ls : Array Slot} {st : List Value}
theorem Goes.inst (X : Cx p s m meth c Z y code maxL ret) {K : String} {index : Nat} (i : Nat) {a : Addr} {C : String} {fs : List OFld} (w : (Jvm.Cond.classLink y.cls index K).before a0 Z = true) (wc : (Jvm.Cond.castable C K).before a0 Z = true) {tg : Nat} (hi : H[i]? = some (a, tg, Sum.inl (C, fs))) (k : Goes p l e R s m args below meth c Z a0 M s0 h0 hS F0 rc rs Q H cells slots (mkF m (pc + 3) Ls (.int 1 :: st))) (hd : oAt code pc (.instanceof index, 3) = true := by decide +kernel) : Goes p l e R s m args below meth c Z a0 M s0 h0 hS F0 rc rs Q H cells slots (mkF m pc Ls (.ref a :: st)) := fun T locs S Y N A => by
  obtain ⟨T', Y', e', st'⟩ := instY Y X.1 X.2.2.2.2.2.2.2 X.2.2.2.1 w rfl (Ins.of_exa (A.at hi).1 wc) (g := mkF m pc Ls (.ref a :: st)) rfl rfl (hb X.2.1 (oAt.dec hd))
  exact (k T' locs S Y' N (by rw [e']; exact A)).via st'
theorem Goes.lswH (X : Cx p s m meth c Z y code maxL ret) {dflt : Int} {prs : Array (Int × Int)} {len pc' : Nat} {v o : Int} {i : Int32} (hsorted : (prs.toList.zip (prs.toList.drop 1)).all (fun (a, next) => a.1 < next.1) = true) (hfind : prs.find? (·.1 == i.toInt) = some (v, o)) (k : Goes p l e R s m args below meth c Z a0 M s0 h0 hS F0 rc rs Q H cells slots (mkF m pc' Ls st)) (hd : oAt code pc (.lookupswitch dflt prs, len) = true := by decide +kernel) (ho : 0 ≤ (pc : Int) + o := by decide) (hp : ((pc : Int) + o).toNat = pc' := by decide) : Goes p l e R s m args below meth c Z a0 M s0 h0 hS F0 rc rs Q H cells slots (mkF m pc Ls (.int i :: st)) := fun T locs S Y N A => by
  subst hp
  exact (k T locs S Y N A).via fun t r => Y.lookupswitchHit X.1 (g := mkF m pc Ls (.int i :: st)) rfl rfl (hb X.2.1 (oAt.dec hd)) hsorted hfind ho t r
theorem Goes.lswM (X : Cx p s m meth c Z y code maxL ret) {dflt : Int} {prs : Array (Int × Int)} {len pc' : Nat} {i : Int32} (hsorted : (prs.toList.zip (prs.toList.drop 1)).all (fun (a, next) => a.1 < next.1) = true) (hfind : prs.find? (·.1 == i.toInt) = none) (k : Goes p l e R s m args below meth c Z a0 M s0 h0 hS F0 rc rs Q H cells slots (mkF m pc' Ls st)) (hd : oAt code pc (.lookupswitch dflt prs, len) = true := by decide +kernel) (ho : 0 ≤ (pc : Int) + dflt := by decide) (hp : ((pc : Int) + dflt).toNat = pc' := by decide) : Goes p l e R s m args below meth c Z a0 M s0 h0 hS F0 rc rs Q H cells slots (mkF m pc Ls (.int i :: st)) := fun T locs S Y N A => by
  subst hp
  exact (k T locs S Y N A).via fun t r => Y.lookupswitchMiss X.1 (g := mkF m pc Ls (.int i :: st)) rfl rfl (hb X.2.1 (oAt.dec hd)) hsorted hfind ho t r
end Tests
abbrev o_String (v0 v1 v2 v3 : Value) : OObj := ob "java/lang/String" [("java/lang/String", "value", "[B", v0), ("java/lang/String", "coder", "B", v1), ("java/lang/String", "hash", "I", v2), ("java/lang/String", "hashIsZero", "Z", v3)]
theorem nd_String : (["value", "coder", "hash", "hashIsZero"] : List String).Nodup := by decide +kernel
theorem new_String {Z : State} {a0 : Array Value} (hw : ∀ d ∈ tables_1, d.before a0 Z = true) : ∀ f ∈ ([("java/lang/String", "value", "[B", .null), ("java/lang/String", "coder", "B", .int 0), ("java/lang/String", "hash", "I", .int 0), ("java/lang/String", "hashIsZero", "Z", .int 0)] : List OFld), Laid Z a0 "java/lang/String" f.1 f.2.1 f.2.2.1 ∧ ∃ t, parseFieldDescriptor f.2.2.1 = some t ∧ f.2.2.2 = defaultValue t := List.forall_mem_cons.mpr ⟨⟨Or.inr (wd hw 37 rfl), (.array .byte), by decide +kernel, rfl⟩, List.forall_mem_cons.mpr ⟨⟨Or.inr (wd hw 35 rfl), .byte, by decide +kernel, rfl⟩, List.forall_mem_cons.mpr ⟨⟨Or.inl (wd hw 129 rfl), .int, by decide +kernel, rfl⟩, List.forall_mem_cons.mpr ⟨⟨Or.inl (wd hw 131 rfl), .boolean, by decide +kernel, rfl⟩, fun _ q => nomatch q⟩⟩⟩⟩
abbrev o_Acc (v0 : Value) : OObj := ob "com/example/woven_feed/wovenfeed/AccountId" [("com/example/woven_feed/wovenfeed/AccountId", "value", "Ljava/lang/String;", v0)]
theorem nd_Acc : (["value"] : List String).Nodup := by decide +kernel
theorem new_Acc {Z : State} {a0 : Array Value} (hw : ∀ d ∈ tables_1, d.before a0 Z = true) : ∀ f ∈ ([("com/example/woven_feed/wovenfeed/AccountId", "value", "Ljava/lang/String;", .null)] : List OFld), Laid Z a0 "com/example/woven_feed/wovenfeed/AccountId" f.1 f.2.1 f.2.2.1 ∧ ∃ t, parseFieldDescriptor f.2.2.1 = some t ∧ f.2.2.2 = defaultValue t := List.forall_mem_cons.mpr ⟨⟨Or.inr (wd hw 96 rfl), (.object "java/lang/String"), by decide +kernel, rfl⟩, fun _ q => nomatch q⟩
abbrev y_0 : MethodName := ⟨"com/example/woven_feed/wovenfeed/AccountIdOfPinLaw", "ch", "(I)C"⟩
theorem pd_y_0 : parseMethodDescriptor y_0.desc = some ⟨[.int], some .char⟩ := by decide +kernel
abbrev y_1 : MethodName := ⟨"com/example/woven_feed/wovenfeed/AccountIdOfPinLaw", "make", "(ICCCC)[C"⟩
theorem pd_y_1 : parseMethodDescriptor y_1.desc = some ⟨[.int, .char, .char, .char, .char], some (.array .char)⟩ := by decide +kernel
abbrev y_2 : MethodName := ⟨"java/lang/String", "<init>", "([C)V"⟩
theorem pd_y_2 : parseMethodDescriptor y_2.desc = some ⟨[(.array .char)], none⟩ := by decide +kernel
abbrev y_3 : MethodName := ⟨"java/lang/String", "<init>", "([CIILjava/lang/Void;)V"⟩
theorem pd_y_3 : parseMethodDescriptor y_3.desc = some ⟨[(.array .char), .int, .int, (.object "java/lang/Void")], none⟩ := by decide +kernel
abbrev y_4 : MethodName := ⟨"java/lang/StringUTF16", "compress", "([CII)[B"⟩
theorem pd_y_4 : parseMethodDescriptor y_4.desc = some ⟨[(.array .char), .int, .int], some (.array .byte)⟩ := by decide +kernel
abbrev y_5 : MethodName := ⟨"java/lang/StringUTF16", "compress", "([CI[BII)I"⟩
theorem pd_y_5 : parseMethodDescriptor y_5.desc = some ⟨[(.array .char), .int, (.array .byte), .int, .int], some .int⟩ := by decide +kernel
abbrev y_6 : MethodName := ⟨"java/lang/StringUTF16", "coderFromArrayLen", "([BI)B"⟩
theorem pd_y_6 : parseMethodDescriptor y_6.desc = some ⟨[(.array .byte), .int], some .byte⟩ := by decide +kernel
abbrev y_7 : MethodName := ⟨"com/example/woven_feed/wovenfeed/AccountId", "of", "(Ljava/lang/String;)Lcom/example/woven_feed/wovenfeed/AccountId;"⟩
theorem pd_y_7 : parseMethodDescriptor y_7.desc = some ⟨[(.object "java/lang/String")], some (.object "com/example/woven_feed/wovenfeed/AccountId")⟩ := by decide +kernel
abbrev y_8 : MethodName := ⟨"java/util/Objects", "requireNonNull", "(Ljava/lang/Object;Ljava/lang/String;)Ljava/lang/Object;"⟩
theorem pd_y_8 : parseMethodDescriptor y_8.desc = some ⟨[(.object "java/lang/Object"), (.object "java/lang/String")], some (.object "java/lang/Object")⟩ := by decide +kernel
abbrev y_9 : MethodName := ⟨"java/lang/String", "isEmpty", "()Z"⟩
theorem pd_y_9 : parseMethodDescriptor y_9.desc = some ⟨[], some .boolean⟩ := by decide +kernel
abbrev y_10 : MethodName := ⟨"java/lang/String", "length", "()I"⟩
theorem pd_y_10 : parseMethodDescriptor y_10.desc = some ⟨[], some .int⟩ := by decide +kernel
abbrev y_11 : MethodName := ⟨"java/lang/String", "coder", "()B"⟩
theorem pd_y_11 : parseMethodDescriptor y_11.desc = some ⟨[], some .byte⟩ := by decide +kernel
abbrev y_12 : MethodName := ⟨"java/lang/String", "charAt", "(I)C"⟩
theorem pd_y_12 : parseMethodDescriptor y_12.desc = some ⟨[.int], some .char⟩ := by decide +kernel
abbrev y_13 : MethodName := ⟨"java/lang/String", "isLatin1", "()Z"⟩
theorem pd_y_13 : parseMethodDescriptor y_13.desc = some ⟨[], some .boolean⟩ := by decide +kernel
abbrev y_14 : MethodName := ⟨"java/lang/StringLatin1", "charAt", "([BI)C"⟩
theorem pd_y_14 : parseMethodDescriptor y_14.desc = some ⟨[(.array .byte), .int], some .char⟩ := by decide +kernel
abbrev y_15 : MethodName := ⟨"java/lang/String", "checkIndex", "(II)V"⟩
theorem pd_y_15 : parseMethodDescriptor y_15.desc = some ⟨[.int, .int], none⟩ := by decide +kernel
abbrev y_16 : MethodName := ⟨"jdk/internal/util/Preconditions", "checkIndex", "(IILjava/util/function/BiFunction;)I"⟩
theorem pd_y_16 : parseMethodDescriptor y_16.desc = some ⟨[.int, .int, (.object "java/util/function/BiFunction")], some .int⟩ := by decide +kernel
abbrev y_17 : MethodName := ⟨"com/example/woven_feed/wovenfeed/AccountId", "isIdCharacter", "(C)Z"⟩
theorem pd_y_17 : parseMethodDescriptor y_17.desc = some ⟨[.char], some .boolean⟩ := by decide +kernel
abbrev y_18 : MethodName := ⟨"com/example/woven_feed/wovenfeed/AccountId", "<init>", "(Ljava/lang/String;)V"⟩
theorem pd_y_18 : parseMethodDescriptor y_18.desc = some ⟨[(.object "java/lang/String")], none⟩ := by decide +kernel
abbrev y_19 : MethodName := ⟨"com/example/woven_feed/wovenfeed/AccountId", "toString", "()Ljava/lang/String;"⟩
theorem pd_y_19 : parseMethodDescriptor y_19.desc = some ⟨[], some (.object "java/lang/String")⟩ := by decide +kernel
abbrev y_20 : MethodName := ⟨"java/lang/String", "equals", "(Ljava/lang/Object;)Z"⟩
theorem pd_y_20 : parseMethodDescriptor y_20.desc = some ⟨[(.object "java/lang/Object")], some .boolean⟩ := by decide +kernel
abbrev y_21 : MethodName := ⟨"com/example/woven_feed/wovenfeed/AccountId", "equals", "(Ljava/lang/Object;)Z"⟩
theorem pd_y_21 : parseMethodDescriptor y_21.desc = some ⟨[(.object "java/lang/Object")], some .boolean⟩ := by decide +kernel
abbrev y_22 : MethodName := ⟨"java/lang/StringLatin1", "equals", "([B[B)Z"⟩
theorem pd_y_22 : parseMethodDescriptor y_22.desc = some ⟨[(.array .byte), (.array .byte)], some .boolean⟩ := by decide +kernel
abbrev y_23 : MethodName := ⟨"com/example/woven_feed/wovenfeed/AccountId", "hashCode", "()I"⟩
theorem pd_y_23 : parseMethodDescriptor y_23.desc = some ⟨[], some .int⟩ := by decide +kernel
abbrev y_24 : MethodName := ⟨"java/lang/String", "hashCode", "()I"⟩
theorem pd_y_24 : parseMethodDescriptor y_24.desc = some ⟨[], some .int⟩ := by decide +kernel
abbrev y_25 : MethodName := ⟨"java/lang/StringLatin1", "hashCode", "([B)I"⟩
theorem pd_y_25 : parseMethodDescriptor y_25.desc = some ⟨[(.array .byte)], some .int⟩ := by decide +kernel
abbrev y_26 : MethodName := ⟨"jdk/internal/util/ArraysSupport", "vectorizedHashCode", "(Ljava/lang/Object;IIII)I"⟩
theorem pd_y_26 : parseMethodDescriptor y_26.desc = some ⟨[(.object "java/lang/Object"), .int, .int, .int, .int], some .int⟩ := by decide +kernel
abbrev y_27 : MethodName := ⟨"jdk/internal/util/ArraysSupport", "signedHashCode", "(I[BII)I"⟩
theorem pd_y_27 : parseMethodDescriptor y_27.desc = some ⟨[.int, (.array .byte), .int, .int], some .int⟩ := by decide +kernel
abbrev oBs (bs : List Value) : OObj := ar "[B" .byte bs
abbrev oCs (cl : List Int32) : OObj := ar "[C" .char (cl.map Value.int)
theorem own_nb (z : Int32) : nar .byte (oI2b z) = oI2b z := by simp [nar, oI2b]
theorem own_i2c {z : Int32} (h0 : 0 ≤ z.toInt) (h1 : z.toInt ≤ 255) : oI2c z = z := by
  have e : z &&& 255 = z := by
    apply Int32.toBitVec_inj.mp
    apply BitVec.eq_of_toNat_eq
    change 0 ≤ z.toBitVec.toInt at h0
    change z.toBitVec.toInt ≤ 255 at h1
    rw [BitVec.toInt_eq_toNat_cond] at h0 h1
    rw [Int32.toBitVec_and, BitVec.toNat_and]
    show z.toBitVec.toNat &&& 255 = z.toBitVec.toNat
    have : z.toBitVec.toNat < 2 ^ 8 := by split at h0 <;> split at h1 <;> omega
    exact Nat.and_two_pow_sub_one_of_lt_two_pow this
  have q := i2c_mask z
  rw [e] at q
  exact q
theorem own_nch {z : Int32} (h0 : 0 ≤ z.toInt) (h1 : z.toInt ≤ 255) : narrow .char (.int z) = .int z := by
  show Value.int (oI2c z) = .int z
  rw [own_i2c h0 h1]
theorem own_nca {z : Int32} (h0 : 0 ≤ z.toInt) (h1 : z.toInt ≤ 255) : nar .char z = z := own_i2c h0 h1
theorem own_le {z : Int32} (h1 : z.toInt ≤ 255) : z ≤ 255 := Int32.le_iff_toInt_le.mpr h1
theorem own_wS {Z : State} {a0 : Array Value} (hw : ∀ d ∈ tables_1, d.before a0 Z = true) : ∀ a ∈ Bundle.stringAtoms, a.before a0 Z = true := List.forall_mem_cons.mpr ⟨wd hw 7 rfl, List.forall_mem_cons.mpr ⟨wd hw 6 rfl, List.forall_mem_cons.mpr ⟨wd hw 27 rfl, List.forall_mem_cons.mpr ⟨wd hw 37 rfl, List.forall_mem_cons.mpr ⟨wd hw 35 rfl, List.forall_mem_cons.mpr ⟨wd hw 43 rfl, List.forall_mem_cons.mpr ⟨wd hw 44 rfl, fun _ q => nomatch q⟩⟩⟩⟩⟩⟩⟩
theorem own_Lv {Z : State} {a0 : Array Value} (hw : ∀ d ∈ tables_1, d.before a0 Z = true) : Laid Z a0 "java/lang/String" "java/lang/String" "value" "[B" := Or.inr (wd hw 37 rfl)
theorem own_Lc {Z : State} {a0 : Array Value} (hw : ∀ d ∈ tables_1, d.before a0 Z = true) : Laid Z a0 "java/lang/String" "java/lang/String" "coder" "B" := Or.inr (wd hw 35 rfl)
abbrev own_EL : List (String × Nat) := []
theorem own_EW {Z : State} {a0 : Array Value} (hw : ∀ d ∈ tables_1, d.before a0 Z = true) : EW Z a0 own_EL := EW.nil
set_option maxRecDepth 65536 in
set_option maxHeartbeats 40000000 in
theorem D_sisl (l : Launch) (Z : State) (a0 : Array Value) (h0 : Heap) (hw : ∀ d ∈ tables_1, d.before a0 Z = true) (cs : Int32) (hCS : Sta Z h0 "java/lang/String" "COMPACT_STRINGS" "Z" (.int cs)) (hcs : ¬ cs = 0) (a : Addr) (tg : Nat) (v0 : Value) (hs hz : Value) : Does l Z a0 h0 y_13 jdk_42_method_154_code 1 (some .boolean) ({ frames := 0, cells := 0, slots := 0, locals := 0 } : Room) #[.ref a] [(a, ro tg (o_String (v0) (.int 0) (hs) (hz)))] (fun v F => v = some (.int 1) ∧ F = [(a, ro tg (o_String (v0) (.int 0) (hs) (hz)))]) := by
  refine Does.mk #[.val (.ref a)] (plainFor_of_name (by decide +kernel)) (fun m => by first | (simp [entryFrame, mkF, argsToLocals, Value.category]; done) | rfl) ?_
  intro p e s m args below meth c h X
  show Goes _ _ _ _ _ _ _ _ _ _ _ _ _ _ _ _ _ _ _ _ [(a, ro tg (o_String (v0) (.int 0) (hs) (hz)))] 0 0 (mkF m 0 #[.val (.ref a)] [])
  refine Goes.getS X (wd hw 22 rfl) Via.refl hCS ?_
  refine Goes.if1 X (pc' := 17) (o := 14) (cd := .eq) (fun q => absurd (q.symm.trans (by simpa [ifCond.holds] using hcs : ifCond.holds .eq cs = false)) (by decide)) (fun _ => ?_)
  refine Goes.runS X [(.aload_n 0, 1)] (S' := [.ref a]) (pc' := 7) rfl ?_
  refine Goes.getF X 0 1 rfl rfl (wd hw 34 rfl) Via.refl ?_
  refine Goes.if1 X (pc' := 17) (o := 7) (cd := .ne) (fun q => absurd q (by decide)) (fun _ => ?_)
  refine Goes.runS X [(.iconst 1, 1)] (S' := [.int (1 : Int32)]) (pc' := 14) rfl ?_
  refine Goes.goto X (o := 4) (pc' := 18) ?_
  refine Goes.retI X (by simp) rfl ?_
  exact ⟨rfl, rfl⟩
set_option maxRecDepth 65536 in
set_option maxHeartbeats 40000000 in
theorem D_pci (l : Launch) (Z : State) (a0 : Array Value) (h0 : Heap) (hw : ∀ d ∈ tables_1, d.before a0 Z = true) (i n : Int32) (sio : Value) (hsio : sio.category = 1) (g0 : ¬ i < 0) (g1 : i < n) : Does l Z a0 h0 y_16 jdk_41_method_11_code 3 (some .int) ({ frames := 0, cells := 0, slots := 0, locals := 0 } : Room) #[.int i, .int n, sio] [] (fun v F => v = some (.int i) ∧ F = []) := by
  refine Does.mk #[.val (.int i), .val (.int n), .val (sio)] (plainFor_of_name (by decide +kernel)) (fun m => by first | (simp [entryFrame, mkF, argsToLocals, own_cI, own_cJ, own_cR, own_cN, hsio]; done) | rfl) ?_
  intro p e s m args below meth c h X
  show Goes _ _ _ _ _ _ _ _ _ _ _ _ _ _ _ _ _ _ _ _ [] 0 0 (mkF m 0 #[.val (.int i), .val (.int n), .val (sio)] [])
  refine Goes.runS X [(.iload_n 0, 1)] (S' := [.int i]) (pc' := 1) rfl ?_
  refine Goes.if1 X (pc' := 9) (o := 8) (cd := .lt) (fun q => absurd (q.symm.trans (by simpa [ifCond.holds] using g0 : ifCond.holds .lt i = false)) (by decide)) (fun _ => ?_)
  refine Goes.runS X [(.iload_n 0, 1), (.iload_n 1, 1)] (S' := [.int n, .int i]) (pc' := 6) rfl ?_
  refine Goes.if2 X (pc' := 16) (o := 10) (cd := .lt) (fun _ => ?_) (fun q => absurd (q.symm.trans (by simpa [if_icmp.holds] using g1 : if_icmp.holds .lt i n = true)) (by decide))
  refine Goes.runS X [(.iload_n 0, 1)] (S' := [.int i]) (pc' := 17) rfl ?_
  refine Goes.retI X (by simp) rfl ?_
  exact ⟨rfl, rfl⟩
set_option maxRecDepth 65536 in
set_option maxHeartbeats 40000000 in
theorem D_sci (l : Launch) (Z : State) (a0 : Array Value) (h0 : Heap) (hw : ∀ d ∈ tables_1, d.before a0 Z = true) (sio : Value) (hSIO : Sta Z h0 "jdk/internal/util/Preconditions" "SIOOBE_FORMATTER" "Ljava/util/function/BiFunction;" sio) (hsio : sio.category = 1) (i n : Int32) (g0 : ¬ i < 0) (g1 : i < n) : Does l Z a0 h0 y_15 jdk_42_method_155_code 2 none ({ frames := 1, cells := 0, slots := 0, locals := 14 } : Room) #[.int i, .int n] [] (fun v F => v = none ∧ F = []) := by
  refine Does.mk #[.val (.int i), .val (.int n)] (plainFor_of_name (by decide +kernel)) (fun m => by first | (simp [entryFrame, mkF, argsToLocals, Value.category]; done) | rfl) ?_
  intro p e s m args below meth c h X
  show Goes _ _ _ _ _ _ _ _ _ _ _ _ _ _ _ _ _ _ _ _ [] 0 0 (mkF m 0 #[.val (.int i), .val (.int n)] [])
  refine Goes.runS X [(.iload_n 0, 1), (.iload_n 1, 1)] (S' := [.int n, .int i]) (pc' := 2) rfl ?_
  refine Goes.getS X (wd hw 81 rfl) Via.refl hSIO ?_
  refine Goes.callS X 0 [] [] (D_pci l Z a0 h0 hw i n sio hsio g0 g1) (wd hw 83 rfl) (wd hw 84 rfl) (wd hw 82 rfl) (wd hw 85 rfl) pd_y_16 rfl (st := []) rfl rfl (G := []) rfl rfl ?_
  rintro _ _ ⟨rfl, rfl⟩
  refine ⟨Or.inr (Or.inr fun _ q => Or.inr (Or.inr q)), ?_⟩
  refine Goes.runS X [(.pop, 1)] (S' := []) (pc' := 9) rfl ?_
  refine Goes.retV X ?_
  exact ⟨rfl, rfl⟩
set_option maxRecDepth 65536 in
set_option maxHeartbeats 40000000 in
theorem D_lca (l : Launch) (Z : State) (a0 : Array Value) (h0 : Heap) (hw : ∀ d ∈ tables_1, d.before a0 Z = true) (sio : Value) (hSIO : Sta Z h0 "jdk/internal/util/Preconditions" "SIOOBE_FORMATTER" "Ljava/util/function/BiFunction;" sio) (hsio : sio.category = 1) (b : Addr) (tg : Nat) (D : String) (vs : List Value) (n i : Int32) (jn : Nat) (hn : vs.length.toInt32 = n) (hj : i.toNatClampNeg = jn) (g0 : ¬ i < 0) (g1 : i < n) (x : Int32) (hv : vs[jn]? = some (.int x)) : Does l Z a0 h0 y_14 jdk_43_method_2_code 2 (some .char) ({ frames := 2, cells := 0, slots := 0, locals := 27 } : Room) #[.ref b, .int i] [(b, ro tg (ar D .byte vs))] (fun v F => v = some (.int (x &&& 255)) ∧ F = [(b, ro tg (ar D .byte vs))]) := by
  refine Does.mk #[.val (.ref b), .val (.int i)] (plainFor_of_name (by decide +kernel)) (fun m => by first | (simp [entryFrame, mkF, argsToLocals, Value.category]; done) | rfl) ?_
  intro p e s m args below meth c h X
  show Goes _ _ _ _ _ _ _ _ _ _ _ _ _ _ _ _ _ _ _ _ [(b, ro tg (ar D .byte vs))] 0 0 (mkF m 0 #[.val (.ref b), .val (.int i)] [])
  refine Goes.runS X [(.iload_n 1, 1), (.aload_n 0, 1)] (S' := [.ref b, .int i]) (pc' := 2) rfl ?_
  refine Goes.alen X 0 (n := n) rfl hn ?_
  show Goes _ _ _ _ _ _ _ _ _ _ _ _ _ _ _ _ _ _ _ _ [(b, ro tg (ar D .byte vs))] 0 0 (mkF m 3 #[.val (.ref b), .val (.int i)] [.int n, .int i])
  refine Goes.callS X 0 [] [0] (D_sci l Z a0 h0 hw sio hSIO hsio i n g0 g1) (wd hw 78 rfl) (wd hw 79 rfl) (wd hw 7 rfl) (wd hw 80 rfl) pd_y_15 rfl (st := []) rfl rfl (G := [(b, ro tg (ar D .byte vs))]) rfl rfl ?_
  rintro _ _ ⟨rfl, rfl⟩
  refine ⟨Or.inr (Or.inr fun _ q => Or.inr (Or.inr q)), ?_⟩
  refine Goes.runS X [(.aload_n 0, 1), (.iload_n 1, 1)] (S' := [.int i, .ref b]) (pc' := 8) rfl ?_
  refine Goes.baload X 0 jn rfl hj g0 hv ?_
  show Goes _ _ _ _ _ _ _ _ _ _ _ _ _ _ _ _ _ _ _ _ [(b, ro tg (ar D .byte vs))] 0 0 (mkF m 9 #[.val (.ref b), .val (.int i)] [.int x])
  refine Goes.runS X [(.sipush 255, 3), (.iand, 1), (.i2c, 1)] (S' := [.int (oI2c (x &&& (255 : Int32)))]) (pc' := 14) rfl ?_
  rw [own_i2c (own_mask x 255 (by decide)).1 (own_mask x 255 (by decide)).2]
  show Goes _ _ _ _ _ _ _ _ _ _ _ _ _ _ _ _ _ _ _ _ [(b, ro tg (ar D .byte vs))] 0 0 (mkF m 14 #[.val (.ref b), .val (.int i)] [.int (x &&& (255 : Int32))])
  refine Goes.retI X (by simp) (own_nch (own_mask x 255 (by decide)).1 (own_mask x 255 (by decide)).2) ?_
  exact ⟨rfl, rfl⟩
set_option maxRecDepth 65536 in
set_option maxHeartbeats 40000000 in
theorem D_ca (l : Launch) (Z : State) (a0 : Array Value) (h0 : Heap) (hw : ∀ d ∈ tables_1, d.before a0 Z = true) (cs : Int32) (hCS : Sta Z h0 "java/lang/String" "COMPACT_STRINGS" "Z" (.int cs)) (hcs : ¬ cs = 0) (sio : Value) (hSIO : Sta Z h0 "jdk/internal/util/Preconditions" "SIOOBE_FORMATTER" "Ljava/util/function/BiFunction;" sio) (hsio : sio.category = 1) (b : Addr) (ts tg : Nat) (a : Addr) (D : String) (vs : List Value) (n i : Int32) (jn : Nat) (hn : vs.length.toInt32 = n) (hj : i.toNatClampNeg = jn) (g0 : ¬ i < 0) (g1 : i < n) (x : Int32) (hv : vs[jn]? = some (.int x)) (hs hz : Value) : Does l Z a0 h0 y_12 jdk_42_method_56_code 2 (some .char) ({ frames := 3, cells := 0, slots := 0, locals := 40 } : Room) #[.ref a, .int i] [(a, ro ts (o_String (.ref b) (.int 0) (hs) (hz))), (b, ro tg (ar D .byte vs))] (fun v F => v = some (.int (x &&& 255)) ∧ F = [(a, ro ts (o_String (.ref b) (.int 0) (hs) (hz))), (b, ro tg (ar D .byte vs))]) := by
  refine Does.mk #[.val (.ref a), .val (.int i)] (plainFor_of_name (by decide +kernel)) (fun m => by first | (simp [entryFrame, mkF, argsToLocals, Value.category]; done) | rfl) ?_
  intro p e s m args below meth c h X
  show Goes _ _ _ _ _ _ _ _ _ _ _ _ _ _ _ _ _ _ _ _ [(a, ro ts (o_String (.ref b) (.int 0) (hs) (hz))), (b, ro tg (ar D .byte vs))] 0 0 (mkF m 0 #[.val (.ref a), .val (.int i)] [])
  refine Goes.runS X [(.aload_n 0, 1)] (S' := [.ref a]) (pc' := 1) rfl ?_
  refine Goes.callV X 0 0 [0] [1] rfl (D_sisl l Z a0 h0 hw cs hCS hcs a ts (.ref b) hs hz) (wd hw 69 rfl) (wd hw 70 rfl) (wd hw 72 rfl) (wd hw 71 rfl) (own_nf X (wd hw 72 rfl)) (wd hw 7 rfl) (wd hw 73 rfl) pd_y_13 rfl (st := []) rfl rfl (G := [(b, ro tg (ar D .byte vs))]) rfl rfl ?_
  rintro _ _ ⟨rfl, rfl⟩
  refine ⟨Or.inr (Or.inr fun _ q => Or.inr (Or.inr q)), ?_⟩
  refine Goes.if1 X (pc' := 16) (o := 12) (cd := .eq) (fun q => absurd q (by decide)) (fun _ => ?_)
  refine Goes.runS X [(.aload_n 0, 1)] (S' := [.ref a]) (pc' := 8) rfl ?_
  refine Goes.getF X 0 0 rfl rfl (wd hw 36 rfl) Via.refl ?_
  refine Goes.runS X [(.iload_n 1, 1)] (S' := [.int i, .ref b]) (pc' := 12) rfl ?_
  refine Goes.callS X 0 [1] [0] (D_lca l Z a0 h0 hw sio hSIO hsio b tg D vs n i jn hn hj g0 g1 x hv) (wd hw 74 rfl) (wd hw 75 rfl) (wd hw 76 rfl) (wd hw 77 rfl) pd_y_14 rfl (st := []) rfl rfl (G := [(a, ro ts (o_String (.ref b) (.int 0) (hs) (hz)))]) rfl rfl ?_
  rintro _ _ ⟨rfl, rfl⟩
  refine ⟨Or.inr (Or.inr fun _ q => Or.inr (Or.inr q)), ?_⟩
  refine Goes.sub [1, 0] (G := [(a, ro ts (o_String (.ref b) (.int 0) (hs) (hz))), (b, ro tg (ar D .byte vs))]) rfl ?_
  refine Goes.retI X (by simp) (own_nch (own_mask x 255 (by decide)).1 (own_mask x 255 (by decide)).2) ?_
  exact ⟨rfl, rfl⟩
abbrev own_by (c : Int32) : Value := .int (oI2b c)
def own_pre (cl : List Int32) (j n : Nat) : List Value := (cl.take j).map own_by ++ List.replicate (n - j) (.int 0)
theorem own_pre_len (cl : List Int32) (j n : Nat) (h : cl.length = n) (hj : j ≤ n) : (own_pre cl j n).length = n := by
  simp [own_pre]; omega
theorem own_pre_set (cl : List Int32) (j n : Nat) (h : cl.length = n) (hj : j < n) (c : Int32) (hc : cl[j]? = some c) : (own_pre cl j n).set j (own_by c) = own_pre cl (j + 1) n := by
  unfold own_pre
  have hl : ((cl.take j).map own_by).length = j := by simp; omega
  have e : n - j = (n - (j + 1)) + 1 := by omega
  rw [List.set_append_right _ _ (by omega), hl, Nat.sub_self, e, List.replicate_succ, List.set_cons_zero]
  have e2 : cl.take (j + 1) = cl.take j ++ [c] := by rw [List.take_add_one, hc]; rfl
  rw [e2, List.map_append, List.append_assoc]; rfl
theorem own_pre_n (cl : List Int32) (n : Nat) (h : cl.length = n) : own_pre cl n n = cl.map own_by := by
  unfold own_pre
  rw [Nat.sub_self, List.take_of_length_le (by omega)]; simp
theorem own_ge : ∀ j : Nat, j ≤ 32 → ∀ n : Nat, n ≤ 32 → if_icmp.holds .ge (Int32.ofNat j) (Int32.ofNat n) = decide (n ≤ j) := by decide +kernel
theorem own_jn : ∀ j : Nat, j ≤ 32 → (Int32.ofNat j).toNatClampNeg = j ∧ ¬ (Int32.ofNat j) < 0 ∧ Int32.ofNat j + 1 = Int32.ofNat (j + 1) := by decide +kernel
theorem own_jlt : ∀ j : Nat, j ≤ 32 → ∀ n : Nat, n ≤ 32 → j < n → Int32.ofNat j < Int32.ofNat n := by decide +kernel
theorem own_n0 : ∀ n : Nat, n ≤ 32 → 0 < n → ifCond.holds .ne (Int32.ofNat n) = true ∧ if_icmp.holds .le (Int32.ofNat n) 32 = true ∧ (Int32.ofNat n) >>> ((0 : Int32) &&& 31) = Int32.ofNat n ∧ n.toInt32 = Int32.ofNat n := by decide +kernel
theorem own_len {α β : Type} (f : α → β) (cl : List α) (n : Nat) (h : cl.length = n) : (cl.map f).length.toInt32 = Int32.ofNat n := by rw [List.length_map, h] <;> rfl
theorem own_at (cl : List Int32) (j n : Nat) (h : cl.length = n) (hj : j < n) : ∃ c, cl[j]? = some c ∧ c ∈ cl := ⟨cl[j], List.getElem?_eq_getElem (by omega), List.getElem_mem (by omega)⟩
theorem own_mp {β : Type} (f : Int32 → β) {cl : List Int32} {j : Nat} {c : Int32} (h : cl[j]? = some c) : (cl.map f)[j]? = some (f c) := by rw [List.getElem?_map, h]; rfl
def own_id (c : Int32) : Bool := (decide (65 ≤ c) && decide (c ≤ 90)) || (decide (97 ≤ c) && decide (c ≤ 122)) || (decide (48 ≤ c) && decide (c ≤ 57)) || decide (c = 95)
theorem own_idN (c : Int32) (h : own_id c = true) : ∃ d : Nat, d < 128 ∧ c = Int32.ofNat d := by
  have k : 0 ≤ c.toInt ∧ c.toInt < 128 := by
    simp only [own_id, Bool.or_eq_true, Bool.and_eq_true, decide_eq_true_eq, Int32.le_iff_toInt_le] at h
    have e1 : (65 : Int32).toInt = 65 := rfl
    have e2 : (90 : Int32).toInt = 90 := rfl
    have e3 : (97 : Int32).toInt = 97 := rfl
    have e4 : (122 : Int32).toInt = 122 := rfl
    have e5 : (48 : Int32).toInt = 48 := rfl
    have e6 : (57 : Int32).toInt = 57 := rfl
    rw [e1, e2, e3, e4, e5, e6] at h
    rcases h with ((h | h) | h) | h
    · omega
    · omega
    · omega
    · subst h; decide
  refine ⟨c.toInt.toNat, by omega, ?_⟩
  apply Int32.toInt_inj.mp
  rw [Int32.toInt_ofNat_of_lt (by omega)]
  omega
theorem own_i128 : ∀ d : Nat, d < 128 → Int32.ofNat d ≤ 255 ∧ 0 ≤ (Int32.ofNat d).toInt ∧ (Int32.ofNat d).toInt ≤ 255 ∧ (oI2b (Int32.ofNat d) &&& 255) = Int32.ofNat d := by decide +kernel
theorem own_i255 {c : Int32} (h : own_id c = true) : c ≤ 255 ∧ 0 ≤ c.toInt ∧ c.toInt ≤ 255 ∧ (oI2b c &&& 255) = c := by
  obtain ⟨d, hd, rfl⟩ := own_idN c h
  exact own_i128 d hd
theorem own_ibi {c e : Int32} (h : own_id c = true) (g : own_id e = true) (q : oI2b c = oI2b e) : c = e := by
  rw [← (own_i255 h).2.2.2, ← (own_i255 g).2.2.2, q]
theorem own_d63 (x : Int32) : ∃ d : Nat, d < 63 ∧ (x &&& 2147483647) % 63 = Int32.ofNat d := by
  have h := own_rem x 63 (by decide)
  have e : (63 : Int32).toInt = 63 := rfl
  rw [e] at h
  refine ⟨((x &&& 2147483647) % 63).toInt.toNat, by omega, ?_⟩
  apply Int32.toInt_inj.mp
  rw [Int32.toInt_ofNat_of_lt (by omega)]
  omega
theorem own_ch1 : ∀ d : Nat, d < 63 → (if_icmp.holds .ge (Int32.ofNat d) 26 = false → own_id (oI2c (65 + Int32.ofNat d)) = true) ∧ (if_icmp.holds .ge (Int32.ofNat d) 26 = true → if_icmp.holds .ge (Int32.ofNat d) 52 = false → own_id (oI2c (97 + (Int32.ofNat d - 26))) = true) ∧ (if_icmp.holds .ge (Int32.ofNat d) 52 = true → if_icmp.holds .ge (Int32.ofNat d) 62 = false → own_id (oI2c (48 + (Int32.ofNat d - 52))) = true) := by decide +kernel
theorem own_nci {c : Int32} (h : own_id c = true) : narrow .char (.int c) = .int c := own_nch (own_i255 h).2.1 (own_i255 h).2.2.1
set_option maxRecDepth 65536 in
set_option maxHeartbeats 40000000 in
theorem D_ch (l : Launch) (Z : State) (a0 : Array Value) (h0 : Heap) (hw : ∀ d ∈ tables_1, d.before a0 Z = true) (x0 : Int32) : Does l Z a0 h0 y_0 method_2_code 2 (some .char) ({ frames := 0, cells := 0, slots := 0, locals := 0 } : Room) #[.int x0] [] (fun v F => ∃ c, v = some (.int c) ∧ own_id c = true ∧ F = []) := by
  obtain ⟨d, hd, f⟩ := own_d63 x0
  refine Does.mk #[.val (.int x0), .unset] (plainFor_of_name (by decide +kernel)) (fun m => by first | (simp [entryFrame, mkF, argsToLocals, Value.category]; done) | rfl) ?_
  intro p e s m args below meth c h X
  show Goes _ _ _ _ _ _ _ _ _ _ _ _ _ _ _ _ _ _ _ _ [] 0 0 (mkF m 0 #[.val (.int x0), .unset] [])
  refine Goes.runS X [(.iload_n 0, 1)] (S' := [.int x0]) (pc' := 1) rfl ?_
  refine Goes.ldcI X (wd hw 4 rfl) ?_
  refine Goes.runS X [(.iand, 1), (.bipush 63, 2), (.irem, 1)] (S' := [.int ((x0 &&& (2147483647 : Int32)) % (63 : Int32))]) (pc' := 7) rfl ?_
  rw [f]
  show Goes _ _ _ _ _ _ _ _ _ _ _ _ _ _ _ _ _ _ _ _ [] 0 0 (mkF m 7 #[.val (.int x0), .unset] [.int (Int32.ofNat d)])
  refine Goes.run X [(.istore_n 1, 1), (.iload_n 1, 1), (.bipush 26, 2)] (L' := #[.val (.int x0), .val (.int (Int32.ofNat d))]) (S' := [.int (26 : Int32), .int (Int32.ofNat d)]) (pc' := 11) rfl ?_
  refine Goes.if2 X (pc' := 20) (o := 9) (cd := .ge) (fun q1 => ?_) (fun q1 => ?_)
  · refine Goes.runS X [(.iload_n 1, 1), (.bipush 52, 2)] (S' := [.int (52 : Int32), .int (Int32.ofNat d)]) (pc' := 23) rfl ?_
    refine Goes.if2 X (pc' := 35) (o := 12) (cd := .ge) (fun q2 => ?_) (fun q2 => ?_)
    · refine Goes.runS X [(.iload_n 1, 1), (.bipush 62, 2)] (S' := [.int (62 : Int32), .int (Int32.ofNat d)]) (pc' := 38) rfl ?_
      refine Goes.if2 X (pc' := 50) (o := 12) (cd := .ge) (fun q3 => ?_) (fun q3 => ?_)
      · refine Goes.runS X [(.bipush 95, 2)] (S' := [.int (95 : Int32)]) (pc' := 52) rfl ?_
        refine Goes.retI X (by simp) rfl ?_
        exact ⟨_, rfl, by decide, rfl⟩
      · refine Goes.runS X [(.bipush 48, 2), (.iload_n 1, 1), (.bipush 52, 2), (.isub, 1), (.iadd, 1), (.i2c, 1)] (S' := [.int (oI2c ((48 : Int32) + ((Int32.ofNat d) - (52 : Int32))))]) (pc' := 49) rfl ?_
        refine Goes.retI X (by simp) (own_nci ((own_ch1 d hd).2.2 q2 q3)) ?_
        exact ⟨_, rfl, ((own_ch1 d hd).2.2 q2 q3), rfl⟩
    · refine Goes.runS X [(.bipush 97, 2), (.iload_n 1, 1), (.bipush 26, 2), (.isub, 1), (.iadd, 1), (.i2c, 1)] (S' := [.int (oI2c ((97 : Int32) + ((Int32.ofNat d) - (26 : Int32))))]) (pc' := 34) rfl ?_
      refine Goes.retI X (by simp) (own_nci ((own_ch1 d hd).2.1 q1 q2)) ?_
      exact ⟨_, rfl, ((own_ch1 d hd).2.1 q1 q2), rfl⟩
  · refine Goes.runS X [(.bipush 65, 2), (.iload_n 1, 1), (.iadd, 1), (.i2c, 1)] (S' := [.int (oI2c ((65 : Int32) + (Int32.ofNat d)))]) (pc' := 19) rfl ?_
    refine Goes.retI X (by simp) (own_nci ((own_ch1 d hd).1 q1)) ?_
    exact ⟨_, rfl, ((own_ch1 d hd).1 q1), rfl⟩
set_option maxRecDepth 65536 in
set_option maxHeartbeats 40000000 in
theorem D_mk0 (l : Launch) (Z : State) (a0 : Array Value) (h0 : Heap) (hw : ∀ d ∈ tables_1, d.before a0 Z = true)  (c0 : Int32) (hc0 : own_id c0 = true) (c1 : Int32) (hc1 : own_id c1 = true) (c2 : Int32) (hc2 : own_id c2 = true) (c3 : Int32) (hc3 : own_id c3 = true) : Does l Z a0 h0 y_1 method_3_code 5 (some (.array .char)) ({ frames := 0, cells := 1, slots := 1, locals := 0 } : Room) #[.int (0 : Int32), .int c0, .int c1, .int c2, .int c3] [] (fun v F => ∃ b, v = some (.ref b) ∧ F = [(b, oCs [c0])]) := by
  refine Does.mk #[.val (.int (0 : Int32)), .val (.int c0), .val (.int c1), .val (.int c2), .val (.int c3)] (plainFor_of_name (by decide +kernel)) (fun m => by first | (simp [entryFrame, mkF, argsToLocals, Value.category]; done) | rfl) ?_
  intro p e s m args below meth c h X
  show Goes _ _ _ _ _ _ _ _ _ _ _ _ _ _ _ _ _ _ _ _ [] 0 0 (mkF m 0 #[.val (.int (0 : Int32)), .val (.int c0), .val (.int c1), .val (.int c2), .val (.int c3)] [])
  refine Goes.runS X [(.iload_n 0, 1)] (S' := [.int (0 : Int32)]) (pc' := 1) rfl ?_
  refine Goes.if1 X (pc' := 12) (o := 11) (cd := .ne) (fun q => absurd q (by decide)) (fun _ => ?_)
  refine Goes.runS X [(.iconst 1, 1)] (S' := [.int (1 : Int32)]) (pc' := 5) rfl ?_
  refine Goes.newarr X (aty := .char) "[C" 1 1 (wd hw 11 rfl) (by decide +kernel) (by decide) (by decide) (fun a4 => ?_)
  refine Goes.runS X [(.dup, 1), (.iconst 0, 1), (.iload_n 1, 1)] (S' := [.int c0, .int (0 : Int32), .ref a4, .ref a4]) (pc' := 10) rfl ?_
  refine Goes.castore X 0 0 rfl (by decide) (by decide) (Nat.le_of_ble_eq_true rfl) ?_
  rw [own_nca (own_i255 hc0).2.1 (own_i255 hc0).2.2.1]
  refine Goes.retA X rfl rfl rfl ?_
  exact ⟨a4, rfl, rfl⟩
set_option maxRecDepth 65536 in
set_option maxHeartbeats 40000000 in
theorem D_mk1 (l : Launch) (Z : State) (a0 : Array Value) (h0 : Heap) (hw : ∀ d ∈ tables_1, d.before a0 Z = true)  (c0 : Int32) (hc0 : own_id c0 = true) (c1 : Int32) (hc1 : own_id c1 = true) (c2 : Int32) (hc2 : own_id c2 = true) (c3 : Int32) (hc3 : own_id c3 = true) : Does l Z a0 h0 y_1 method_3_code 5 (some (.array .char)) ({ frames := 0, cells := 1, slots := 2, locals := 0 } : Room) #[.int (1 : Int32), .int c0, .int c1, .int c2, .int c3] [] (fun v F => ∃ b, v = some (.ref b) ∧ F = [(b, oCs [c0, c1])]) := by
  refine Does.mk #[.val (.int (1 : Int32)), .val (.int c0), .val (.int c1), .val (.int c2), .val (.int c3)] (plainFor_of_name (by decide +kernel)) (fun m => by first | (simp [entryFrame, mkF, argsToLocals, Value.category]; done) | rfl) ?_
  intro p e s m args below meth c h X
  show Goes _ _ _ _ _ _ _ _ _ _ _ _ _ _ _ _ _ _ _ _ [] 0 0 (mkF m 0 #[.val (.int (1 : Int32)), .val (.int c0), .val (.int c1), .val (.int c2), .val (.int c3)] [])
  refine Goes.runS X [(.iload_n 0, 1)] (S' := [.int (1 : Int32)]) (pc' := 1) rfl ?_
  refine Goes.if1 X (pc' := 12) (o := 11) (cd := .ne) (fun _ => ?_) (fun q => absurd q (by decide))
  refine Goes.runS X [(.iload_n 0, 1), (.iconst 1, 1)] (S' := [.int (1 : Int32), .int (1 : Int32)]) (pc' := 14) rfl ?_
  refine Goes.if2 X (pc' := 29) (o := 15) (cd := .ne) (fun q => absurd q (by decide)) (fun _ => ?_)
  refine Goes.runS X [(.iconst 2, 1)] (S' := [.int (2 : Int32)]) (pc' := 18) rfl ?_
  refine Goes.newarr X (aty := .char) "[C" 2 2 (wd hw 11 rfl) (by decide +kernel) (by decide) (by decide) (fun a5 => ?_)
  refine Goes.runS X [(.dup, 1), (.iconst 0, 1), (.iload_n 1, 1)] (S' := [.int c0, .int (0 : Int32), .ref a5, .ref a5]) (pc' := 23) rfl ?_
  refine Goes.castore X 0 0 rfl (by decide) (by decide) (Nat.le_of_ble_eq_true rfl) ?_
  rw [own_nca (own_i255 hc0).2.1 (own_i255 hc0).2.2.1]
  refine Goes.runS X [(.dup, 1), (.iconst 1, 1), (.iload_n 2, 1)] (S' := [.int c1, .int (1 : Int32), .ref a5, .ref a5]) (pc' := 27) rfl ?_
  refine Goes.castore X 0 1 rfl (by decide) (by decide) (Nat.le_of_ble_eq_true rfl) ?_
  rw [own_nca (own_i255 hc1).2.1 (own_i255 hc1).2.2.1]
  refine Goes.retA X rfl rfl rfl ?_
  exact ⟨a5, rfl, rfl⟩
set_option maxRecDepth 65536 in
set_option maxHeartbeats 40000000 in
theorem D_mk2 (l : Launch) (Z : State) (a0 : Array Value) (h0 : Heap) (hw : ∀ d ∈ tables_1, d.before a0 Z = true)  (c0 : Int32) (hc0 : own_id c0 = true) (c1 : Int32) (hc1 : own_id c1 = true) (c2 : Int32) (hc2 : own_id c2 = true) (c3 : Int32) (hc3 : own_id c3 = true) : Does l Z a0 h0 y_1 method_3_code 5 (some (.array .char)) ({ frames := 0, cells := 1, slots := 3, locals := 0 } : Room) #[.int (2 : Int32), .int c0, .int c1, .int c2, .int c3] [] (fun v F => ∃ b, v = some (.ref b) ∧ F = [(b, oCs [c0, c1, c2])]) := by
  refine Does.mk #[.val (.int (2 : Int32)), .val (.int c0), .val (.int c1), .val (.int c2), .val (.int c3)] (plainFor_of_name (by decide +kernel)) (fun m => by first | (simp [entryFrame, mkF, argsToLocals, Value.category]; done) | rfl) ?_
  intro p e s m args below meth c h X
  show Goes _ _ _ _ _ _ _ _ _ _ _ _ _ _ _ _ _ _ _ _ [] 0 0 (mkF m 0 #[.val (.int (2 : Int32)), .val (.int c0), .val (.int c1), .val (.int c2), .val (.int c3)] [])
  refine Goes.runS X [(.iload_n 0, 1)] (S' := [.int (2 : Int32)]) (pc' := 1) rfl ?_
  refine Goes.if1 X (pc' := 12) (o := 11) (cd := .ne) (fun _ => ?_) (fun q => absurd q (by decide))
  refine Goes.runS X [(.iload_n 0, 1), (.iconst 1, 1)] (S' := [.int (1 : Int32), .int (2 : Int32)]) (pc' := 14) rfl ?_
  refine Goes.if2 X (pc' := 29) (o := 15) (cd := .ne) (fun _ => ?_) (fun q => absurd q (by decide))
  refine Goes.runS X [(.iload_n 0, 1), (.iconst 2, 1)] (S' := [.int (2 : Int32), .int (2 : Int32)]) (pc' := 31) rfl ?_
  refine Goes.if2 X (pc' := 50) (o := 19) (cd := .ne) (fun q => absurd q (by decide)) (fun _ => ?_)
  refine Goes.runS X [(.iconst 3, 1)] (S' := [.int (3 : Int32)]) (pc' := 35) rfl ?_
  refine Goes.newarr X (aty := .char) "[C" 3 3 (wd hw 11 rfl) (by decide +kernel) (by decide) (by decide) (fun a6 => ?_)
  refine Goes.runS X [(.dup, 1), (.iconst 0, 1), (.iload_n 1, 1)] (S' := [.int c0, .int (0 : Int32), .ref a6, .ref a6]) (pc' := 40) rfl ?_
  refine Goes.castore X 0 0 rfl (by decide) (by decide) (Nat.le_of_ble_eq_true rfl) ?_
  rw [own_nca (own_i255 hc0).2.1 (own_i255 hc0).2.2.1]
  refine Goes.runS X [(.dup, 1), (.iconst 1, 1), (.iload_n 2, 1)] (S' := [.int c1, .int (1 : Int32), .ref a6, .ref a6]) (pc' := 44) rfl ?_
  refine Goes.castore X 0 1 rfl (by decide) (by decide) (Nat.le_of_ble_eq_true rfl) ?_
  rw [own_nca (own_i255 hc1).2.1 (own_i255 hc1).2.2.1]
  refine Goes.runS X [(.dup, 1), (.iconst 2, 1), (.iload_n 3, 1)] (S' := [.int c2, .int (2 : Int32), .ref a6, .ref a6]) (pc' := 48) rfl ?_
  refine Goes.castore X 0 2 rfl (by decide) (by decide) (Nat.le_of_ble_eq_true rfl) ?_
  rw [own_nca (own_i255 hc2).2.1 (own_i255 hc2).2.2.1]
  refine Goes.retA X rfl rfl rfl ?_
  exact ⟨a6, rfl, rfl⟩
set_option maxRecDepth 65536 in
set_option maxHeartbeats 40000000 in
theorem D_mk3 (l : Launch) (Z : State) (a0 : Array Value) (h0 : Heap) (hw : ∀ d ∈ tables_1, d.before a0 Z = true)  (c0 : Int32) (hc0 : own_id c0 = true) (c1 : Int32) (hc1 : own_id c1 = true) (c2 : Int32) (hc2 : own_id c2 = true) (c3 : Int32) (hc3 : own_id c3 = true) : Does l Z a0 h0 y_1 method_3_code 5 (some (.array .char)) ({ frames := 0, cells := 1, slots := 4, locals := 0 } : Room) #[.int (3 : Int32), .int c0, .int c1, .int c2, .int c3] [] (fun v F => ∃ b, v = some (.ref b) ∧ F = [(b, oCs [c0, c1, c2, c3])]) := by
  refine Does.mk #[.val (.int (3 : Int32)), .val (.int c0), .val (.int c1), .val (.int c2), .val (.int c3)] (plainFor_of_name (by decide +kernel)) (fun m => by first | (simp [entryFrame, mkF, argsToLocals, Value.category]; done) | rfl) ?_
  intro p e s m args below meth c h X
  show Goes _ _ _ _ _ _ _ _ _ _ _ _ _ _ _ _ _ _ _ _ [] 0 0 (mkF m 0 #[.val (.int (3 : Int32)), .val (.int c0), .val (.int c1), .val (.int c2), .val (.int c3)] [])
  refine Goes.runS X [(.iload_n 0, 1)] (S' := [.int (3 : Int32)]) (pc' := 1) rfl ?_
  refine Goes.if1 X (pc' := 12) (o := 11) (cd := .ne) (fun _ => ?_) (fun q => absurd q (by decide))
  refine Goes.runS X [(.iload_n 0, 1), (.iconst 1, 1)] (S' := [.int (1 : Int32), .int (3 : Int32)]) (pc' := 14) rfl ?_
  refine Goes.if2 X (pc' := 29) (o := 15) (cd := .ne) (fun _ => ?_) (fun q => absurd q (by decide))
  refine Goes.runS X [(.iload_n 0, 1), (.iconst 2, 1)] (S' := [.int (2 : Int32), .int (3 : Int32)]) (pc' := 31) rfl ?_
  refine Goes.if2 X (pc' := 50) (o := 19) (cd := .ne) (fun _ => ?_) (fun q => absurd q (by decide))
  refine Goes.runS X [(.iload_n 0, 1), (.iconst 3, 1)] (S' := [.int (3 : Int32), .int (3 : Int32)]) (pc' := 52) rfl ?_
  refine Goes.if2 X (pc' := 76) (o := 24) (cd := .ne) (fun q => absurd q (by decide)) (fun _ => ?_)
  refine Goes.runS X [(.iconst 4, 1)] (S' := [.int (4 : Int32)]) (pc' := 56) rfl ?_
  refine Goes.newarr X (aty := .char) "[C" 4 4 (wd hw 11 rfl) (by decide +kernel) (by decide) (by decide) (fun a7 => ?_)
  refine Goes.runS X [(.dup, 1), (.iconst 0, 1), (.iload_n 1, 1)] (S' := [.int c0, .int (0 : Int32), .ref a7, .ref a7]) (pc' := 61) rfl ?_
  refine Goes.castore X 0 0 rfl (by decide) (by decide) (Nat.le_of_ble_eq_true rfl) ?_
  rw [own_nca (own_i255 hc0).2.1 (own_i255 hc0).2.2.1]
  refine Goes.runS X [(.dup, 1), (.iconst 1, 1), (.iload_n 2, 1)] (S' := [.int c1, .int (1 : Int32), .ref a7, .ref a7]) (pc' := 65) rfl ?_
  refine Goes.castore X 0 1 rfl (by decide) (by decide) (Nat.le_of_ble_eq_true rfl) ?_
  rw [own_nca (own_i255 hc1).2.1 (own_i255 hc1).2.2.1]
  refine Goes.runS X [(.dup, 1), (.iconst 2, 1), (.iload_n 3, 1)] (S' := [.int c2, .int (2 : Int32), .ref a7, .ref a7]) (pc' := 69) rfl ?_
  refine Goes.castore X 0 2 rfl (by decide) (by decide) (Nat.le_of_ble_eq_true rfl) ?_
  rw [own_nca (own_i255 hc2).2.1 (own_i255 hc2).2.2.1]
  refine Goes.runS X [(.dup, 1), (.iconst 3, 1), (.iload 4, 2)] (S' := [.int c3, .int (3 : Int32), .ref a7, .ref a7]) (pc' := 74) rfl ?_
  refine Goes.castore X 0 3 rfl (by decide) (by decide) (Nat.le_of_ble_eq_true rfl) ?_
  rw [own_nca (own_i255 hc3).2.1 (own_i255 hc3).2.2.1]
  show Goes _ _ _ _ _ _ _ _ _ _ _ _ _ _ _ _ _ _ _ _ [(a7, ar "[C" .char [.int c0, .int c1, .int c2, .int c3])] 1 4 (mkF m 75 #[.val (.int (3 : Int32)), .val (.int c0), .val (.int c1), .val (.int c2), .val (.int c3)] [.ref a7])
  refine Goes.retA X rfl rfl rfl ?_
  exact ⟨a7, rfl, rfl⟩
set_option maxRecDepth 65536 in
set_option maxHeartbeats 40000000 in
theorem D_mk4 (l : Launch) (Z : State) (a0 : Array Value) (h0 : Heap) (hw : ∀ d ∈ tables_1, d.before a0 Z = true)  (c0 : Int32) (hc0 : own_id c0 = true) (c1 : Int32) (hc1 : own_id c1 = true) (c2 : Int32) (hc2 : own_id c2 = true) (c3 : Int32) (hc3 : own_id c3 = true) : Does l Z a0 h0 y_1 method_3_code 5 (some (.array .char)) ({ frames := 0, cells := 1, slots := 32, locals := 0 } : Room) #[.int (4 : Int32), .int c0, .int c1, .int c2, .int c3] [] (fun v F => ∃ b, v = some (.ref b) ∧ F = [(b, oCs [c0, c1, c2, c3, c0, c1, c2, c3, c0, c1, c2, c3, c0, c1, c2, c3, c0, c1, c2, c3, c0, c1, c2, c3, c0, c1, c2, c3, c0, c1, c2, c3])]) := by
  refine Does.mk #[.val (.int (4 : Int32)), .val (.int c0), .val (.int c1), .val (.int c2), .val (.int c3)] (plainFor_of_name (by decide +kernel)) (fun m => by first | (simp [entryFrame, mkF, argsToLocals, Value.category]; done) | rfl) ?_
  intro p e s m args below meth c h X
  show Goes _ _ _ _ _ _ _ _ _ _ _ _ _ _ _ _ _ _ _ _ [] 0 0 (mkF m 0 #[.val (.int (4 : Int32)), .val (.int c0), .val (.int c1), .val (.int c2), .val (.int c3)] [])
  refine Goes.runS X [(.iload_n 0, 1)] (S' := [.int (4 : Int32)]) (pc' := 1) rfl ?_
  refine Goes.if1 X (pc' := 12) (o := 11) (cd := .ne) (fun _ => ?_) (fun q => absurd q (by decide))
  refine Goes.runS X [(.iload_n 0, 1), (.iconst 1, 1)] (S' := [.int (1 : Int32), .int (4 : Int32)]) (pc' := 14) rfl ?_
  refine Goes.if2 X (pc' := 29) (o := 15) (cd := .ne) (fun _ => ?_) (fun q => absurd q (by decide))
  refine Goes.runS X [(.iload_n 0, 1), (.iconst 2, 1)] (S' := [.int (2 : Int32), .int (4 : Int32)]) (pc' := 31) rfl ?_
  refine Goes.if2 X (pc' := 50) (o := 19) (cd := .ne) (fun _ => ?_) (fun q => absurd q (by decide))
  refine Goes.runS X [(.iload_n 0, 1), (.iconst 3, 1)] (S' := [.int (3 : Int32), .int (4 : Int32)]) (pc' := 52) rfl ?_
  refine Goes.if2 X (pc' := 76) (o := 24) (cd := .ne) (fun _ => ?_) (fun q => absurd q (by decide))
  refine Goes.runS X [(.bipush 32, 2)] (S' := [.int (32 : Int32)]) (pc' := 78) rfl ?_
  refine Goes.newarr X (aty := .char) "[C" 32 32 (wd hw 11 rfl) (by decide +kernel) (by decide) (by decide) (fun a8 => ?_)
  refine Goes.runS X [(.dup, 1), (.iconst 0, 1), (.iload_n 1, 1)] (S' := [.int c0, .int (0 : Int32), .ref a8, .ref a8]) (pc' := 83) rfl ?_
  refine Goes.castore X 0 0 rfl (by decide) (by decide) (Nat.le_of_ble_eq_true rfl) ?_
  rw [own_nca (own_i255 hc0).2.1 (own_i255 hc0).2.2.1]
  refine Goes.runS X [(.dup, 1), (.iconst 1, 1), (.iload_n 2, 1)] (S' := [.int c1, .int (1 : Int32), .ref a8, .ref a8]) (pc' := 87) rfl ?_
  refine Goes.castore X 0 1 rfl (by decide) (by decide) (Nat.le_of_ble_eq_true rfl) ?_
  rw [own_nca (own_i255 hc1).2.1 (own_i255 hc1).2.2.1]
  refine Goes.runS X [(.dup, 1), (.iconst 2, 1), (.iload_n 3, 1)] (S' := [.int c2, .int (2 : Int32), .ref a8, .ref a8]) (pc' := 91) rfl ?_
  refine Goes.castore X 0 2 rfl (by decide) (by decide) (Nat.le_of_ble_eq_true rfl) ?_
  rw [own_nca (own_i255 hc2).2.1 (own_i255 hc2).2.2.1]
  refine Goes.runS X [(.dup, 1), (.iconst 3, 1), (.iload 4, 2)] (S' := [.int c3, .int (3 : Int32), .ref a8, .ref a8]) (pc' := 96) rfl ?_
  refine Goes.castore X 0 3 rfl (by decide) (by decide) (Nat.le_of_ble_eq_true rfl) ?_
  rw [own_nca (own_i255 hc3).2.1 (own_i255 hc3).2.2.1]
  show Goes _ _ _ _ _ _ _ _ _ _ _ _ _ _ _ _ _ _ _ _ [(a8, ar "[C" .char [.int c0, .int c1, .int c2, .int c3, .int 0, .int 0, .int 0, .int 0, .int 0, .int 0, .int 0, .int 0, .int 0, .int 0, .int 0, .int 0, .int 0, .int 0, .int 0, .int 0, .int 0, .int 0, .int 0, .int 0, .int 0, .int 0, .int 0, .int 0, .int 0, .int 0, .int 0, .int 0])] 1 32 (mkF m 97 #[.val (.int (4 : Int32)), .val (.int c0), .val (.int c1), .val (.int c2), .val (.int c3)] [.ref a8])
  refine Goes.runS X [(.dup, 1), (.iconst 4, 1), (.iload_n 1, 1)] (S' := [.int c0, .int (4 : Int32), .ref a8, .ref a8]) (pc' := 100) rfl ?_
  refine Goes.castore X 0 4 rfl (by decide) (by decide) (Nat.le_of_ble_eq_true rfl) ?_
  rw [own_nca (own_i255 hc0).2.1 (own_i255 hc0).2.2.1]
  refine Goes.runS X [(.dup, 1), (.iconst 5, 1), (.iload_n 2, 1)] (S' := [.int c1, .int (5 : Int32), .ref a8, .ref a8]) (pc' := 104) rfl ?_
  refine Goes.castore X 0 5 rfl (by decide) (by decide) (Nat.le_of_ble_eq_true rfl) ?_
  rw [own_nca (own_i255 hc1).2.1 (own_i255 hc1).2.2.1]
  refine Goes.runS X [(.dup, 1), (.bipush 6, 2), (.iload_n 3, 1)] (S' := [.int c2, .int (6 : Int32), .ref a8, .ref a8]) (pc' := 109) rfl ?_
  refine Goes.castore X 0 6 rfl (by decide) (by decide) (Nat.le_of_ble_eq_true rfl) ?_
  rw [own_nca (own_i255 hc2).2.1 (own_i255 hc2).2.2.1]
  refine Goes.runS X [(.dup, 1), (.bipush 7, 2), (.iload 4, 2)] (S' := [.int c3, .int (7 : Int32), .ref a8, .ref a8]) (pc' := 115) rfl ?_
  refine Goes.castore X 0 7 rfl (by decide) (by decide) (Nat.le_of_ble_eq_true rfl) ?_
  rw [own_nca (own_i255 hc3).2.1 (own_i255 hc3).2.2.1]
  show Goes _ _ _ _ _ _ _ _ _ _ _ _ _ _ _ _ _ _ _ _ [(a8, ar "[C" .char [.int c0, .int c1, .int c2, .int c3, .int c0, .int c1, .int c2, .int c3, .int 0, .int 0, .int 0, .int 0, .int 0, .int 0, .int 0, .int 0, .int 0, .int 0, .int 0, .int 0, .int 0, .int 0, .int 0, .int 0, .int 0, .int 0, .int 0, .int 0, .int 0, .int 0, .int 0, .int 0])] 1 32 (mkF m 116 #[.val (.int (4 : Int32)), .val (.int c0), .val (.int c1), .val (.int c2), .val (.int c3)] [.ref a8])
  refine Goes.runS X [(.dup, 1), (.bipush 8, 2), (.iload_n 1, 1)] (S' := [.int c0, .int (8 : Int32), .ref a8, .ref a8]) (pc' := 120) rfl ?_
  refine Goes.castore X 0 8 rfl (by decide) (by decide) (Nat.le_of_ble_eq_true rfl) ?_
  rw [own_nca (own_i255 hc0).2.1 (own_i255 hc0).2.2.1]
  refine Goes.runS X [(.dup, 1), (.bipush 9, 2), (.iload_n 2, 1)] (S' := [.int c1, .int (9 : Int32), .ref a8, .ref a8]) (pc' := 125) rfl ?_
  refine Goes.castore X 0 9 rfl (by decide) (by decide) (Nat.le_of_ble_eq_true rfl) ?_
  rw [own_nca (own_i255 hc1).2.1 (own_i255 hc1).2.2.1]
  refine Goes.runS X [(.dup, 1), (.bipush 10, 2), (.iload_n 3, 1)] (S' := [.int c2, .int (10 : Int32), .ref a8, .ref a8]) (pc' := 130) rfl ?_
  refine Goes.castore X 0 10 rfl (by decide) (by decide) (Nat.le_of_ble_eq_true rfl) ?_
  rw [own_nca (own_i255 hc2).2.1 (own_i255 hc2).2.2.1]
  refine Goes.runS X [(.dup, 1), (.bipush 11, 2), (.iload 4, 2)] (S' := [.int c3, .int (11 : Int32), .ref a8, .ref a8]) (pc' := 136) rfl ?_
  refine Goes.castore X 0 11 rfl (by decide) (by decide) (Nat.le_of_ble_eq_true rfl) ?_
  rw [own_nca (own_i255 hc3).2.1 (own_i255 hc3).2.2.1]
  show Goes _ _ _ _ _ _ _ _ _ _ _ _ _ _ _ _ _ _ _ _ [(a8, ar "[C" .char [.int c0, .int c1, .int c2, .int c3, .int c0, .int c1, .int c2, .int c3, .int c0, .int c1, .int c2, .int c3, .int 0, .int 0, .int 0, .int 0, .int 0, .int 0, .int 0, .int 0, .int 0, .int 0, .int 0, .int 0, .int 0, .int 0, .int 0, .int 0, .int 0, .int 0, .int 0, .int 0])] 1 32 (mkF m 137 #[.val (.int (4 : Int32)), .val (.int c0), .val (.int c1), .val (.int c2), .val (.int c3)] [.ref a8])
  refine Goes.runS X [(.dup, 1), (.bipush 12, 2), (.iload_n 1, 1)] (S' := [.int c0, .int (12 : Int32), .ref a8, .ref a8]) (pc' := 141) rfl ?_
  refine Goes.castore X 0 12 rfl (by decide) (by decide) (Nat.le_of_ble_eq_true rfl) ?_
  rw [own_nca (own_i255 hc0).2.1 (own_i255 hc0).2.2.1]
  refine Goes.runS X [(.dup, 1), (.bipush 13, 2), (.iload_n 2, 1)] (S' := [.int c1, .int (13 : Int32), .ref a8, .ref a8]) (pc' := 146) rfl ?_
  refine Goes.castore X 0 13 rfl (by decide) (by decide) (Nat.le_of_ble_eq_true rfl) ?_
  rw [own_nca (own_i255 hc1).2.1 (own_i255 hc1).2.2.1]
  refine Goes.runS X [(.dup, 1), (.bipush 14, 2), (.iload_n 3, 1)] (S' := [.int c2, .int (14 : Int32), .ref a8, .ref a8]) (pc' := 151) rfl ?_
  refine Goes.castore X 0 14 rfl (by decide) (by decide) (Nat.le_of_ble_eq_true rfl) ?_
  rw [own_nca (own_i255 hc2).2.1 (own_i255 hc2).2.2.1]
  refine Goes.runS X [(.dup, 1), (.bipush 15, 2), (.iload 4, 2)] (S' := [.int c3, .int (15 : Int32), .ref a8, .ref a8]) (pc' := 157) rfl ?_
  refine Goes.castore X 0 15 rfl (by decide) (by decide) (Nat.le_of_ble_eq_true rfl) ?_
  rw [own_nca (own_i255 hc3).2.1 (own_i255 hc3).2.2.1]
  show Goes _ _ _ _ _ _ _ _ _ _ _ _ _ _ _ _ _ _ _ _ [(a8, ar "[C" .char [.int c0, .int c1, .int c2, .int c3, .int c0, .int c1, .int c2, .int c3, .int c0, .int c1, .int c2, .int c3, .int c0, .int c1, .int c2, .int c3, .int 0, .int 0, .int 0, .int 0, .int 0, .int 0, .int 0, .int 0, .int 0, .int 0, .int 0, .int 0, .int 0, .int 0, .int 0, .int 0])] 1 32 (mkF m 158 #[.val (.int (4 : Int32)), .val (.int c0), .val (.int c1), .val (.int c2), .val (.int c3)] [.ref a8])
  refine Goes.runS X [(.dup, 1), (.bipush 16, 2), (.iload_n 1, 1)] (S' := [.int c0, .int (16 : Int32), .ref a8, .ref a8]) (pc' := 162) rfl ?_
  refine Goes.castore X 0 16 rfl (by decide) (by decide) (Nat.le_of_ble_eq_true rfl) ?_
  rw [own_nca (own_i255 hc0).2.1 (own_i255 hc0).2.2.1]
  refine Goes.runS X [(.dup, 1), (.bipush 17, 2), (.iload_n 2, 1)] (S' := [.int c1, .int (17 : Int32), .ref a8, .ref a8]) (pc' := 167) rfl ?_
  refine Goes.castore X 0 17 rfl (by decide) (by decide) (Nat.le_of_ble_eq_true rfl) ?_
  rw [own_nca (own_i255 hc1).2.1 (own_i255 hc1).2.2.1]
  refine Goes.runS X [(.dup, 1), (.bipush 18, 2), (.iload_n 3, 1)] (S' := [.int c2, .int (18 : Int32), .ref a8, .ref a8]) (pc' := 172) rfl ?_
  refine Goes.castore X 0 18 rfl (by decide) (by decide) (Nat.le_of_ble_eq_true rfl) ?_
  rw [own_nca (own_i255 hc2).2.1 (own_i255 hc2).2.2.1]
  refine Goes.runS X [(.dup, 1), (.bipush 19, 2), (.iload 4, 2)] (S' := [.int c3, .int (19 : Int32), .ref a8, .ref a8]) (pc' := 178) rfl ?_
  refine Goes.castore X 0 19 rfl (by decide) (by decide) (Nat.le_of_ble_eq_true rfl) ?_
  rw [own_nca (own_i255 hc3).2.1 (own_i255 hc3).2.2.1]
  show Goes _ _ _ _ _ _ _ _ _ _ _ _ _ _ _ _ _ _ _ _ [(a8, ar "[C" .char [.int c0, .int c1, .int c2, .int c3, .int c0, .int c1, .int c2, .int c3, .int c0, .int c1, .int c2, .int c3, .int c0, .int c1, .int c2, .int c3, .int c0, .int c1, .int c2, .int c3, .int 0, .int 0, .int 0, .int 0, .int 0, .int 0, .int 0, .int 0, .int 0, .int 0, .int 0, .int 0])] 1 32 (mkF m 179 #[.val (.int (4 : Int32)), .val (.int c0), .val (.int c1), .val (.int c2), .val (.int c3)] [.ref a8])
  refine Goes.runS X [(.dup, 1), (.bipush 20, 2), (.iload_n 1, 1)] (S' := [.int c0, .int (20 : Int32), .ref a8, .ref a8]) (pc' := 183) rfl ?_
  refine Goes.castore X 0 20 rfl (by decide) (by decide) (Nat.le_of_ble_eq_true rfl) ?_
  rw [own_nca (own_i255 hc0).2.1 (own_i255 hc0).2.2.1]
  refine Goes.runS X [(.dup, 1), (.bipush 21, 2), (.iload_n 2, 1)] (S' := [.int c1, .int (21 : Int32), .ref a8, .ref a8]) (pc' := 188) rfl ?_
  refine Goes.castore X 0 21 rfl (by decide) (by decide) (Nat.le_of_ble_eq_true rfl) ?_
  rw [own_nca (own_i255 hc1).2.1 (own_i255 hc1).2.2.1]
  refine Goes.runS X [(.dup, 1), (.bipush 22, 2), (.iload_n 3, 1)] (S' := [.int c2, .int (22 : Int32), .ref a8, .ref a8]) (pc' := 193) rfl ?_
  refine Goes.castore X 0 22 rfl (by decide) (by decide) (Nat.le_of_ble_eq_true rfl) ?_
  rw [own_nca (own_i255 hc2).2.1 (own_i255 hc2).2.2.1]
  refine Goes.runS X [(.dup, 1), (.bipush 23, 2), (.iload 4, 2)] (S' := [.int c3, .int (23 : Int32), .ref a8, .ref a8]) (pc' := 199) rfl ?_
  refine Goes.castore X 0 23 rfl (by decide) (by decide) (Nat.le_of_ble_eq_true rfl) ?_
  rw [own_nca (own_i255 hc3).2.1 (own_i255 hc3).2.2.1]
  show Goes _ _ _ _ _ _ _ _ _ _ _ _ _ _ _ _ _ _ _ _ [(a8, ar "[C" .char [.int c0, .int c1, .int c2, .int c3, .int c0, .int c1, .int c2, .int c3, .int c0, .int c1, .int c2, .int c3, .int c0, .int c1, .int c2, .int c3, .int c0, .int c1, .int c2, .int c3, .int c0, .int c1, .int c2, .int c3, .int 0, .int 0, .int 0, .int 0, .int 0, .int 0, .int 0, .int 0])] 1 32 (mkF m 200 #[.val (.int (4 : Int32)), .val (.int c0), .val (.int c1), .val (.int c2), .val (.int c3)] [.ref a8])
  refine Goes.runS X [(.dup, 1), (.bipush 24, 2), (.iload_n 1, 1)] (S' := [.int c0, .int (24 : Int32), .ref a8, .ref a8]) (pc' := 204) rfl ?_
  refine Goes.castore X 0 24 rfl (by decide) (by decide) (Nat.le_of_ble_eq_true rfl) ?_
  rw [own_nca (own_i255 hc0).2.1 (own_i255 hc0).2.2.1]
  refine Goes.runS X [(.dup, 1), (.bipush 25, 2), (.iload_n 2, 1)] (S' := [.int c1, .int (25 : Int32), .ref a8, .ref a8]) (pc' := 209) rfl ?_
  refine Goes.castore X 0 25 rfl (by decide) (by decide) (Nat.le_of_ble_eq_true rfl) ?_
  rw [own_nca (own_i255 hc1).2.1 (own_i255 hc1).2.2.1]
  refine Goes.runS X [(.dup, 1), (.bipush 26, 2), (.iload_n 3, 1)] (S' := [.int c2, .int (26 : Int32), .ref a8, .ref a8]) (pc' := 214) rfl ?_
  refine Goes.castore X 0 26 rfl (by decide) (by decide) (Nat.le_of_ble_eq_true rfl) ?_
  rw [own_nca (own_i255 hc2).2.1 (own_i255 hc2).2.2.1]
  refine Goes.runS X [(.dup, 1), (.bipush 27, 2), (.iload 4, 2)] (S' := [.int c3, .int (27 : Int32), .ref a8, .ref a8]) (pc' := 220) rfl ?_
  refine Goes.castore X 0 27 rfl (by decide) (by decide) (Nat.le_of_ble_eq_true rfl) ?_
  rw [own_nca (own_i255 hc3).2.1 (own_i255 hc3).2.2.1]
  show Goes _ _ _ _ _ _ _ _ _ _ _ _ _ _ _ _ _ _ _ _ [(a8, ar "[C" .char [.int c0, .int c1, .int c2, .int c3, .int c0, .int c1, .int c2, .int c3, .int c0, .int c1, .int c2, .int c3, .int c0, .int c1, .int c2, .int c3, .int c0, .int c1, .int c2, .int c3, .int c0, .int c1, .int c2, .int c3, .int c0, .int c1, .int c2, .int c3, .int 0, .int 0, .int 0, .int 0])] 1 32 (mkF m 221 #[.val (.int (4 : Int32)), .val (.int c0), .val (.int c1), .val (.int c2), .val (.int c3)] [.ref a8])
  refine Goes.runS X [(.dup, 1), (.bipush 28, 2), (.iload_n 1, 1)] (S' := [.int c0, .int (28 : Int32), .ref a8, .ref a8]) (pc' := 225) rfl ?_
  refine Goes.castore X 0 28 rfl (by decide) (by decide) (Nat.le_of_ble_eq_true rfl) ?_
  rw [own_nca (own_i255 hc0).2.1 (own_i255 hc0).2.2.1]
  refine Goes.runS X [(.dup, 1), (.bipush 29, 2), (.iload_n 2, 1)] (S' := [.int c1, .int (29 : Int32), .ref a8, .ref a8]) (pc' := 230) rfl ?_
  refine Goes.castore X 0 29 rfl (by decide) (by decide) (Nat.le_of_ble_eq_true rfl) ?_
  rw [own_nca (own_i255 hc1).2.1 (own_i255 hc1).2.2.1]
  refine Goes.runS X [(.dup, 1), (.bipush 30, 2), (.iload_n 3, 1)] (S' := [.int c2, .int (30 : Int32), .ref a8, .ref a8]) (pc' := 235) rfl ?_
  refine Goes.castore X 0 30 rfl (by decide) (by decide) (Nat.le_of_ble_eq_true rfl) ?_
  rw [own_nca (own_i255 hc2).2.1 (own_i255 hc2).2.2.1]
  refine Goes.runS X [(.dup, 1), (.bipush 31, 2), (.iload 4, 2)] (S' := [.int c3, .int (31 : Int32), .ref a8, .ref a8]) (pc' := 241) rfl ?_
  refine Goes.castore X 0 31 rfl (by decide) (by decide) (Nat.le_of_ble_eq_true rfl) ?_
  rw [own_nca (own_i255 hc3).2.1 (own_i255 hc3).2.2.1]
  show Goes _ _ _ _ _ _ _ _ _ _ _ _ _ _ _ _ _ _ _ _ [(a8, ar "[C" .char [.int c0, .int c1, .int c2, .int c3, .int c0, .int c1, .int c2, .int c3, .int c0, .int c1, .int c2, .int c3, .int c0, .int c1, .int c2, .int c3, .int c0, .int c1, .int c2, .int c3, .int c0, .int c1, .int c2, .int c3, .int c0, .int c1, .int c2, .int c3, .int c0, .int c1, .int c2, .int c3])] 1 32 (mkF m 242 #[.val (.int (4 : Int32)), .val (.int c0), .val (.int c1), .val (.int c2), .val (.int c3)] [.ref a8])
  refine Goes.retA X rfl rfl rfl ?_
  exact ⟨a8, rfl, rfl⟩
set_option maxRecDepth 65536 in
set_option maxHeartbeats 40000000 in
theorem D_cb (l : Launch) (Z : State) (a0 : Array Value) (h0 : Heap) (hw : ∀ d ∈ tables_1, d.before a0 Z = true) (b t : Addr) (cl : List Int32) (hid : ∀ c ∈ cl, own_id c = true) (n : Nat) (hn : cl.length = n) (hn0 : 0 < n) (hn2 : n ≤ 32) : Does l Z a0 h0 y_5 jdk_52_method_21_code 7 (some .int) ({ frames := 0, cells := 0, slots := 0, locals := 0 } : Room) #[.ref b, .int (Int32.ofNat 0), .ref t, .int (Int32.ofNat 0), .int (Int32.ofNat n)] [(b, oCs cl), (t, oBs (own_pre cl 0 n))] (fun v F => v = some (.int (Int32.ofNat n)) ∧ F = [(b, oCs cl), (t, oBs (cl.map own_by))]) := by
  refine Does.mk #[.val (.ref b), .val (.int (Int32.ofNat 0)), .val (.ref t), .val (.int (Int32.ofNat 0)), .val (.int (Int32.ofNat n)), .unset, .unset] (plainFor_of_name (by decide +kernel)) (fun m => by first | (simp [entryFrame, mkF, argsToLocals, Value.category]; done) | rfl) ?_
  intro p e s m args below meth c h X
  show Goes _ _ _ _ _ _ _ _ _ _ _ _ _ _ _ _ _ _ _ _ [(b, oCs cl), (t, oBs (own_pre cl 0 n))] 0 0 (mkF m 0 #[.val (.ref b), .val (.int (Int32.ofNat 0)), .val (.ref t), .val (.int (Int32.ofNat 0)), .val (.int (Int32.ofNat n)), .unset, .unset] [])
  have lp : ∀ (k j : Nat) (sl : Slot) (hsl : sl = .unset ∨ ∃ x : Int32, sl = .val (.int x)), j + k = n → Goes p l e ({ frames := 0, cells := 0, slots := 0, locals := 0 } : Room) s m args below meth c Z a0 none s h0 h [(b, oCs cl), (t, oBs (own_pre cl 0 n))] ({ frames := 0, cells := 0, slots := 0, locals := 0 } : Room).cells ({ frames := 0, cells := 0, slots := 0, locals := 0 } : Room).slots (fun v F => v = some (.int (Int32.ofNat n)) ∧ F = [(b, oCs cl), (t, oBs (cl.map own_by))]) [(b, oCs cl), (t, oBs (own_pre cl j n))] 0 0 (mkF m 3 #[.val (.ref b), .val (.int (Int32.ofNat j)), .val (.ref t), .val (.int (Int32.ofNat j)), .val (.int (Int32.ofNat n)), .val (.int (Int32.ofNat j)), sl] []) := by
    intro k
    induction k with
    | zero =>
      intro j sl hsl hj
      obtain rfl : n = j := by omega
      refine Goes.runS X [(.iload 5, 2), (.iload 4, 2)] (S' := [.int (Int32.ofNat n), .int (Int32.ofNat n)]) (pc' := 7) rfl ?_
      refine Goes.if2 X (pc' := 44) (o := 37) (cd := .ge) (fun _ => ?_) (fun q => absurd (q.symm.trans (by rw [own_ge _ hn2 _ hn2]; simp : if_icmp.holds .ge (Int32.ofNat n) (Int32.ofNat n) = true)) (by decide))
      refine Goes.runS X [(.iload 4, 2)] (S' := [.int (Int32.ofNat n)]) (pc' := 46) rfl ?_
      refine Goes.retI X (by simp) rfl ?_
      exact ⟨rfl, by rw [own_pre_n cl _ hn]⟩
    | succ k ih =>
      intro j sl hsl hj
      have hlt : j < n := by omega
      obtain ⟨c1, hc1, hm⟩ := own_at cl j n hn hlt
      have hg := own_i255 (hid c1 hm)
      have hq := own_jn j (by omega)
      have rest : Goes p l e ({ frames := 0, cells := 0, slots := 0, locals := 0 } : Room) s m args below meth c Z a0 none s h0 h [(b, oCs cl), (t, oBs (own_pre cl 0 n))] ({ frames := 0, cells := 0, slots := 0, locals := 0 } : Room).cells ({ frames := 0, cells := 0, slots := 0, locals := 0 } : Room).slots (fun v F => v = some (.int (Int32.ofNat n)) ∧ F = [(b, oCs cl), (t, oBs (cl.map own_by))]) [(b, oCs cl), (t, oBs (own_pre cl j n))] 0 0 (mkF m 15 #[.val (.ref b), .val (.int (Int32.ofNat j)), .val (.ref t), .val (.int (Int32.ofNat j)), .val (.int (Int32.ofNat n)), .val (.int (Int32.ofNat j)), .val (.int c1)] []) := by
        refine Goes.runS X [(.iload 6, 2), (.sipush 255, 3)] (S' := [.int (255 : Int32), .int c1]) (pc' := 20) rfl ?_
        refine Goes.if2 X (pc' := 26) (o := 6) (cd := .le) (fun _ => ?_) (fun q => absurd (q.symm.trans (by simpa [if_icmp.holds] using hg.1 : if_icmp.holds .le c1 (255 : Int32) = true)) (by decide))
        refine Goes.runS X [(.aload_n 2, 1), (.iload_n 3, 1), (.iload 6, 2), (.i2b, 1)] (S' := [.int (oI2b c1), .int (Int32.ofNat j), .ref t]) (pc' := 31) rfl ?_
        refine Goes.bastore X 1 j rfl hq.1 hq.2.1 (by rw [own_pre_len cl j n hn (by omega)]; exact hlt) ?_
        show Goes _ _ _ _ _ _ _ _ _ _ _ _ _ _ _ _ _ _ _ _ [(b, oCs cl), (t, oBs ((own_pre cl j n).set j (.int (nar .byte (oI2b c1)))))] 0 0 (mkF m 32 #[.val (.ref b), .val (.int (Int32.ofNat j)), .val (.ref t), .val (.int (Int32.ofNat j)), .val (.int (Int32.ofNat n)), .val (.int (Int32.ofNat j)), .val (.int c1)] [])
        rw [own_nb, own_pre_set cl j n hn hlt c1 hc1]
        show Goes _ _ _ _ _ _ _ _ _ _ _ _ _ _ _ _ _ _ _ _ [(b, oCs cl), (t, oBs (own_pre cl (j + 1) n))] 0 0 (mkF m 32 #[.val (.ref b), .val (.int (Int32.ofNat j)), .val (.ref t), .val (.int (Int32.ofNat j)), .val (.int (Int32.ofNat n)), .val (.int (Int32.ofNat j)), .val (.int c1)] [])
        refine Goes.run X [(.iinc 1 1, 3), (.iinc 3 1, 3), (.iinc 5 1, 3)] (L' := #[.val (.ref b), .val (.int ((Int32.ofNat j) + (1 : Int32))), .val (.ref t), .val (.int ((Int32.ofNat j) + (1 : Int32))), .val (.int (Int32.ofNat n)), .val (.int ((Int32.ofNat j) + (1 : Int32))), .val (.int c1)]) (S' := []) (pc' := 41) rfl ?_
        rw [hq.2.2]
        show Goes _ _ _ _ _ _ _ _ _ _ _ _ _ _ _ _ _ _ _ _ [(b, oCs cl), (t, oBs (own_pre cl (j + 1) n))] 0 0 (mkF m 41 #[.val (.ref b), .val (.int (Int32.ofNat (j + 1))), .val (.ref t), .val (.int (Int32.ofNat (j + 1))), .val (.int (Int32.ofNat n)), .val (.int (Int32.ofNat (j + 1))), .val (.int c1)] [])
        refine Goes.goto X (o := (-38)) (pc' := 3) ?_
        exact ih (j + 1) _ (Or.inr ⟨_, rfl⟩) (by omega)
      refine Goes.runS X [(.iload 5, 2), (.iload 4, 2)] (S' := [.int (Int32.ofNat n), .int (Int32.ofNat j)]) (pc' := 7) rfl ?_
      refine Goes.if2 X (pc' := 44) (o := 37) (cd := .ge) (fun q => absurd (q.symm.trans (by rw [own_ge j (by omega) n hn2]; simp; omega : if_icmp.holds .ge (Int32.ofNat j) (Int32.ofNat n) = false)) (by decide)) (fun _ => ?_)
      refine Goes.runS X [(.aload_n 0, 1), (.iload_n 1, 1)] (S' := [.int (Int32.ofNat j), .ref b]) (pc' := 12) rfl ?_
      refine Goes.caload X 0 j rfl hq.1 hq.2.1 (own_mp Value.int hc1) ?_
      show Goes _ _ _ _ _ _ _ _ _ _ _ _ _ _ _ _ _ _ _ _ [(b, oCs cl), (t, oBs (own_pre cl j n))] 0 0 (mkF m 13 #[.val (.ref b), .val (.int (Int32.ofNat j)), .val (.ref t), .val (.int (Int32.ofNat j)), .val (.int (Int32.ofNat n)), .val (.int (Int32.ofNat j)), sl] [.int c1])
      rcases hsl with rfl | ⟨x6, rfl⟩
      · exact Goes.run X [(.istore 6, 2)] rfl rest
      · exact Goes.run X [(.istore 6, 2)] rfl rest
  refine Goes.run X [(.iconst 0, 1), (.istore 5, 2)] (L' := #[.val (.ref b), .val (.int (Int32.ofNat 0)), .val (.ref t), .val (.int (Int32.ofNat 0)), .val (.int (Int32.ofNat n)), .val (.int (0 : Int32)), .unset]) (S' := []) (pc' := 3) rfl ?_
  exact lp n 0 _ (Or.inl rfl) (by omega)
set_option maxRecDepth 65536 in
set_option maxHeartbeats 40000000 in
theorem D_cac (l : Launch) (Z : State) (a0 : Array Value) (h0 : Heap) (hw : ∀ d ∈ tables_1, d.before a0 Z = true) (b : Addr) (cl : List Int32) (hid : ∀ c ∈ cl, own_id c = true) (n : Nat) (hn : cl.length = n) (hn0 : 0 < n) (hn2 : n ≤ 32) : Does l Z a0 h0 y_4 jdk_52_method_16_code 6 (some (.array .byte)) ({ frames := 1, cells := 1, slots := 32, locals := 18 } : Room) #[.ref b, .int 0, .int (Int32.ofNat n)] [(b, oCs cl)] (fun v F => ∃ t, v = some (.ref t) ∧ F = [(b, oCs cl), (t, oBs (cl.map own_by))]) := by
  refine Does.mk #[.val (.ref b), .val (.int 0), .val (.int (Int32.ofNat n)), .unset, .unset, .unset] (plainFor_of_name (by decide +kernel)) (fun m => by first | (simp [entryFrame, mkF, argsToLocals, Value.category]; done) | rfl) ?_
  intro p e s m args below meth c h X
  show Goes _ _ _ _ _ _ _ _ _ _ _ _ _ _ _ _ _ _ _ _ [(b, oCs cl)] 0 0 (mkF m 0 #[.val (.ref b), .val (.int 0), .val (.int (Int32.ofNat n)), .unset, .unset, .unset] [])
  refine Goes.runS X [(.iload_n 2, 1)] (S' := [.int (Int32.ofNat n)]) (pc' := 1) rfl ?_
  refine Goes.newarr X (aty := .byte) "[B" n 32 (wd hw 27 rfl) (by decide +kernel) (own_jn n hn2).2.1 (own_jn n hn2).1 (fun t9 => ?_) (hcap := hn2)
  show Goes _ _ _ _ _ _ _ _ _ _ _ _ _ _ _ _ _ _ _ _ [(b, oCs cl), (t9, oBs (own_pre cl 0 n))] 1 32 (mkF m 3 #[.val (.ref b), .val (.int 0), .val (.int (Int32.ofNat n)), .unset, .unset, .unset] [.ref t9])
  refine Goes.run X [(.astore_n 3, 1), (.aload_n 0, 1), (.iload_n 1, 1), (.aload_n 3, 1), (.iconst 0, 1), (.iload_n 2, 1)] (L' := #[.val (.ref b), .val (.int 0), .val (.int (Int32.ofNat n)), .val (.ref t9), .unset, .unset]) (S' := [.int (Int32.ofNat n), .int (0 : Int32), .ref t9, .int 0, .ref b]) (pc' := 9) rfl ?_
  refine Goes.callS X 0 [0, 1] [] (D_cb l Z a0 h0 hw b t9 cl hid n hn hn0 hn2) (wd hw 28 rfl) (wd hw 29 rfl) (wd hw 25 rfl) (wd hw 30 rfl) pd_y_5 rfl (st := []) rfl rfl (G := []) rfl rfl ?_
  rintro _ _ ⟨rfl, rfl⟩
  refine ⟨Or.inl rfl, ?_⟩
  refine Goes.run X [(.istore 4, 2), (.iload 4, 2), (.iload_n 2, 1)] (L' := #[.val (.ref b), .val (.int 0), .val (.int (Int32.ofNat n)), .val (.ref t9), .val (.int (Int32.ofNat n)), .unset]) (S' := [.int (Int32.ofNat n), .int (Int32.ofNat n)]) (pc' := 17) rfl ?_
  refine Goes.if2 X (pc' := 57) (o := 40) (cd := .eq) (fun _ => ?_) (fun q => absurd (q.symm.trans (by simp [if_icmp.holds] : if_icmp.holds .eq (Int32.ofNat n) (Int32.ofNat n) = true)) (by decide))
  refine Goes.runS X [(.aload_n 3, 1)] (S' := [.ref t9]) (pc' := 58) rfl ?_
  refine Goes.retA X rfl rfl rfl ?_
  exact ⟨t9, rfl, rfl⟩
set_option maxRecDepth 65536 in
set_option maxHeartbeats 40000000 in
theorem D_cod (l : Launch) (Z : State) (a0 : Array Value) (h0 : Heap) (hw : ∀ d ∈ tables_1, d.before a0 Z = true) (t : Addr) (cl : List Int32) (hid : ∀ c ∈ cl, own_id c = true) (n : Nat) (hn : cl.length = n) (hn0 : 0 < n) (hn2 : n ≤ 32) : Does l Z a0 h0 y_6 jdk_52_method_15_code 2 (some .byte) ({ frames := 0, cells := 0, slots := 0, locals := 0 } : Room) #[.ref t, .int (Int32.ofNat n)] [(t, oBs (cl.map own_by))] (fun v F => v = some (.int 0) ∧ F = [(t, oBs (cl.map own_by))]) := by
  refine Does.mk #[.val (.ref t), .val (.int (Int32.ofNat n))] (plainFor_of_name (by decide +kernel)) (fun m => by first | (simp [entryFrame, mkF, argsToLocals, Value.category]; done) | rfl) ?_
  intro p e s m args below meth c h X
  show Goes _ _ _ _ _ _ _ _ _ _ _ _ _ _ _ _ _ _ _ _ [(t, oBs (cl.map own_by))] 0 0 (mkF m 0 #[.val (.ref t), .val (.int (Int32.ofNat n))] [])
  refine Goes.runS X [(.iload_n 1, 1), (.aload_n 0, 1)] (S' := [.ref t, .int (Int32.ofNat n)]) (pc' := 2) rfl ?_
  refine Goes.alen X 0 (n := Int32.ofNat n) rfl (own_len _ cl n hn) ?_
  show Goes _ _ _ _ _ _ _ _ _ _ _ _ _ _ _ _ _ _ _ _ [(t, oBs (cl.map own_by))] 0 0 (mkF m 3 #[.val (.ref t), .val (.int (Int32.ofNat n))] [.int (Int32.ofNat n), .int (Int32.ofNat n)])
  refine Goes.runS X [(.isub, 1), (.bipush 31, 2), (.iushr, 1), (.i2b, 1)] (S' := [.int (oI2b (oUshr ((Int32.ofNat n) - (Int32.ofNat n)) (31 : Int32)))]) (pc' := 8) rfl ?_
  rw [Int32.sub_self]
  show Goes _ _ _ _ _ _ _ _ _ _ _ _ _ _ _ _ _ _ _ _ [(t, oBs (cl.map own_by))] 0 0 (mkF m 8 #[.val (.ref t), .val (.int (Int32.ofNat n))] [.int (oI2b (oUshr 0 (31 : Int32)))])
  refine Goes.retI X (by simp) rfl ?_
  exact ⟨rfl, rfl⟩
theorem pf_0 : parseFieldDescriptor "B" = some .byte := by decide +kernel
theorem pf_1 : parseFieldDescriptor "[B" = some (.array .byte) := by decide +kernel
set_option maxRecDepth 65536 in
set_option maxHeartbeats 40000000 in
theorem D_sv (l : Launch) (Z : State) (a0 : Array Value) (h0 : Heap) (hw : ∀ d ∈ tables_1, d.before a0 Z = true) (cs : Int32) (hCS : Sta Z h0 "java/lang/String" "COMPACT_STRINGS" "Z" (.int cs)) (hcs : ¬ cs = 0) (a b : Addr) (cl : List Int32) (hid : ∀ c ∈ cl, own_id c = true) (n : Nat) (hn : cl.length = n) (hn0 : 0 < n) (hn2 : n ≤ 32) : Does l Z a0 h0 y_3 jdk_42_method_149_code 6 none ({ frames := 2, cells := 1, slots := 32, locals := 35 } : Room) #[.ref a, .ref b, .int 0, .int (Int32.ofNat n), .null] [(a, o_String .null (.int 0) (.int 0) (.int 0)), (b, oCs cl)] (fun v F => ∃ t, v = none ∧ F = [(a, o_String (.ref t) (.int 0) (.int 0) (.int 0)), (t, oBs (cl.map own_by))]) := by
  refine Does.mk #[.val (.ref a), .val (.ref b), .val (.int 0), .val (.int (Int32.ofNat n)), .val .null, .unset] (plainFor_of_name (by decide +kernel)) (fun m => by first | (simp [entryFrame, mkF, argsToLocals, Value.category]; done) | rfl) ?_
  intro p e s m args below meth c h X
  show Goes _ _ _ _ _ _ _ _ _ _ _ _ _ _ _ _ _ _ _ _ [(a, o_String .null (.int 0) (.int 0) (.int 0)), (b, oCs cl)] 0 0 (mkF m 0 #[.val (.ref a), .val (.ref b), .val (.int 0), .val (.int (Int32.ofNat n)), .val .null, .unset] [])
  refine Goes.runS X [(.aload_n 0, 1)] (S' := [.ref a]) (pc' := 1) rfl ?_
  refine Goes.initO X 0 (wd hw 19 rfl) (wd hw 20 rfl) (wd hw 21 rfl) rfl ?_
  refine Goes.runS X [(.iload_n 3, 1)] (S' := [.int (Int32.ofNat n)]) (pc' := 5) rfl ?_
  refine Goes.if1 X (pc' := 27) (o := 22) (cd := .ne) (fun _ => ?_) (fun q => absurd (q.symm.trans (own_n0 n hn2 hn0).1) (by decide))
  refine Goes.getS X (wd hw 22 rfl) Via.refl hCS ?_
  refine Goes.if1 X (pc' := 58) (o := 28) (cd := .eq) (fun q => absurd (q.symm.trans (by simpa [ifCond.holds] using hcs : ifCond.holds .eq cs = false)) (by decide)) (fun _ => ?_)
  refine Goes.runS X [(.aload_n 1, 1), (.iload_n 2, 1), (.iload_n 3, 1)] (S' := [.int (Int32.ofNat n), .int 0, .ref b]) (pc' := 36) rfl ?_
  refine Goes.callS X 0 [1] [0] (D_cac l Z a0 h0 hw b cl hid n hn hn0 hn2) (wd hw 23 rfl) (wd hw 24 rfl) (wd hw 25 rfl) (wd hw 26 rfl) pd_y_4 rfl (st := []) rfl rfl (G := [(a, o_String .null (.int 0) (.int 0) (.int 0))]) rfl rfl ?_
  rintro _ _ ⟨t10, rfl, rfl⟩
  refine ⟨Or.inl rfl, ?_⟩
  refine Goes.run X [(.astore 5, 2), (.aload_n 0, 1), (.aload 5, 2), (.iload_n 3, 1)] (L' := #[.val (.ref a), .val (.ref b), .val (.int 0), .val (.int (Int32.ofNat n)), .val .null, .val (.ref t10)]) (S' := [.int (Int32.ofNat n), .ref t10, .ref a]) (pc' := 45) rfl ?_
  refine Goes.callS X 1 [1] [0, 2] (D_cod l Z a0 h0 hw t10 cl hid n hn hn0 hn2) (wd hw 31 rfl) (wd hw 32 rfl) (wd hw 25 rfl) (wd hw 33 rfl) pd_y_6 rfl (st := [.ref a]) rfl rfl (G := [(b, oCs cl), (a, o_String .null (.int 0) (.int 0) (.int 0))]) rfl rfl ?_
  rintro _ _ ⟨rfl, rfl⟩
  refine ⟨Or.inr (Or.inr fun _ q => Or.inr (Or.inr q)), ?_⟩
  refine Goes.putF X 2 1 rfl rfl (wd hw 34 rfl) Via.refl (Or.inr ⟨(wd hw 35 rfl), rfl, rfl⟩) (wd hw 6 rfl) (own_hn rfl rfl nd_String) (ty := .byte) pf_0 rfl rfl ?_
  refine Goes.runS X [(.aload_n 0, 1), (.aload 5, 2)] (S' := [.ref t10, .ref a]) (pc' := 54) rfl ?_
  refine Goes.putF X 2 0 rfl rfl (wd hw 36 rfl) Via.refl (Or.inr ⟨(wd hw 37 rfl), rfl, rfl⟩) (wd hw 6 rfl) (own_hn rfl rfl nd_String) (ty := (.array .byte)) pf_1 rfl rfl ?_
  refine Goes.sub [2, 0] (G := [(a, o_String (.ref t10) (.int (0 : Int32)) (.int 0) (.int 0)), (t10, oBs (cl.map own_by))]) rfl ?_
  refine Goes.retV X ?_
  exact ⟨t10, rfl, rfl⟩
set_option maxRecDepth 65536 in
set_option maxHeartbeats 40000000 in
theorem D_sc (l : Launch) (Z : State) (a0 : Array Value) (h0 : Heap) (hw : ∀ d ∈ tables_1, d.before a0 Z = true) (cs : Int32) (hCS : Sta Z h0 "java/lang/String" "COMPACT_STRINGS" "Z" (.int cs)) (hcs : ¬ cs = 0) (a b : Addr) (cl : List Int32) (hid : ∀ c ∈ cl, own_id c = true) (n : Nat) (hn : cl.length = n) (hn0 : 0 < n) (hn2 : n ≤ 32) : Does l Z a0 h0 y_2 jdk_42_method_3_code 2 none ({ frames := 3, cells := 1, slots := 32, locals := 52 } : Room) #[.ref a, .ref b] [(a, o_String .null (.int 0) (.int 0) (.int 0)), (b, oCs cl)] (fun v F => ∃ t, v = none ∧ F = [(a, o_String (.ref t) (.int 0) (.int 0) (.int 0)), (t, oBs (cl.map own_by))]) := by
  refine Does.mk #[.val (.ref a), .val (.ref b)] (plainFor_of_name (by decide +kernel)) (fun m => by first | (simp [entryFrame, mkF, argsToLocals, Value.category]; done) | rfl) ?_
  intro p e s m args below meth c h X
  show Goes _ _ _ _ _ _ _ _ _ _ _ _ _ _ _ _ _ _ _ _ [(a, o_String .null (.int 0) (.int 0) (.int 0)), (b, oCs cl)] 0 0 (mkF m 0 #[.val (.ref a), .val (.ref b)] [])
  refine Goes.runS X [(.aload_n 0, 1), (.aload_n 1, 1), (.iconst 0, 1), (.aload_n 1, 1)] (S' := [.ref b, .int (0 : Int32), .ref b, .ref a]) (pc' := 4) rfl ?_
  refine Goes.alen X 1 (n := Int32.ofNat n) rfl (own_len _ cl n hn) ?_
  show Goes _ _ _ _ _ _ _ _ _ _ _ _ _ _ _ _ _ _ _ _ [(a, o_String .null (.int 0) (.int 0) (.int 0)), (b, oCs cl)] 0 0 (mkF m 5 #[.val (.ref a), .val (.ref b)] [.int (Int32.ofNat n), .int (0 : Int32), .ref b, .ref a])
  refine Goes.runS X [(.aconst_null, 1)] (S' := [.null, .int (Int32.ofNat n), .int (0 : Int32), .ref b, .ref a]) (pc' := 6) rfl ?_
  refine Goes.callN X 0 [0, 1] [] (D_sv l Z a0 h0 hw cs hCS hcs a b cl hid n hn hn0 hn2) rfl (wd hw 15 rfl) (wd hw 16 rfl) (wd hw 7 rfl) (wd hw 18 rfl) pd_y_3 rfl (st := []) rfl rfl (G := []) rfl rfl ?_
  rintro _ _ ⟨t11, rfl, rfl⟩
  refine ⟨Or.inl rfl, ?_⟩
  refine Goes.retV X ?_
  exact ⟨t11, rfl, rfl⟩
set_option maxRecDepth 65536 in
set_option maxHeartbeats 40000000 in
theorem D_scod (l : Launch) (Z : State) (a0 : Array Value) (h0 : Heap) (hw : ∀ d ∈ tables_1, d.before a0 Z = true) (cs : Int32) (hCS : Sta Z h0 "java/lang/String" "COMPACT_STRINGS" "Z" (.int cs)) (hcs : ¬ cs = 0) (a b : Addr) (hs hz : Value) : Does l Z a0 h0 y_11 jdk_42_method_152_code 1 (some .byte) ({ frames := 0, cells := 0, slots := 0, locals := 0 } : Room) #[.ref a] [(a, o_String (.ref b) (.int 0) (hs) (hz))] (fun v F => v = some (.int 0) ∧ F = [(a, o_String (.ref b) (.int 0) (hs) (hz))]) := by
  refine Does.mk #[.val (.ref a)] (plainFor_of_name (by decide +kernel)) (fun m => by first | (simp [entryFrame, mkF, argsToLocals, Value.category]; done) | rfl) ?_
  intro p e s m args below meth c h X
  show Goes _ _ _ _ _ _ _ _ _ _ _ _ _ _ _ _ _ _ _ _ [(a, o_String (.ref b) (.int 0) (hs) (hz))] 0 0 (mkF m 0 #[.val (.ref a)] [])
  refine Goes.getS X (wd hw 22 rfl) Via.refl hCS ?_
  refine Goes.if1 X (pc' := 13) (o := 10) (cd := .eq) (fun q => absurd (q.symm.trans (by simpa [ifCond.holds] using hcs : ifCond.holds .eq cs = false)) (by decide)) (fun _ => ?_)
  refine Goes.runS X [(.aload_n 0, 1)] (S' := [.ref a]) (pc' := 7) rfl ?_
  refine Goes.getF X 0 1 rfl rfl (wd hw 34 rfl) Via.refl ?_
  refine Goes.goto X (o := 4) (pc' := 14) ?_
  refine Goes.retI X (by simp) rfl ?_
  exact ⟨rfl, rfl⟩
set_option maxRecDepth 65536 in
set_option maxHeartbeats 40000000 in
theorem D_slen (l : Launch) (Z : State) (a0 : Array Value) (h0 : Heap) (hw : ∀ d ∈ tables_1, d.before a0 Z = true) (cs : Int32) (hCS : Sta Z h0 "java/lang/String" "COMPACT_STRINGS" "Z" (.int cs)) (hcs : ¬ cs = 0) (a b : Addr) (hs hz : Value) (cl : List Int32) (hid : ∀ c ∈ cl, own_id c = true) (n : Nat) (hn : cl.length = n) (hn0 : 0 < n) (hn2 : n ≤ 32) : Does l Z a0 h0 y_10 jdk_42_method_54_code 1 (some .int) ({ frames := 1, cells := 0, slots := 0, locals := 13 } : Room) #[.ref a] [(a, o_String (.ref b) (.int 0) (hs) (hz)), (b, oBs (cl.map own_by))] (fun v F => v = some (.int (Int32.ofNat n)) ∧ F = [(a, o_String (.ref b) (.int 0) (hs) (hz)), (b, oBs (cl.map own_by))]) := by
  refine Does.mk #[.val (.ref a)] (plainFor_of_name (by decide +kernel)) (fun m => by first | (simp [entryFrame, mkF, argsToLocals, Value.category]; done) | rfl) ?_
  intro p e s m args below meth c h X
  show Goes _ _ _ _ _ _ _ _ _ _ _ _ _ _ _ _ _ _ _ _ [(a, o_String (.ref b) (.int 0) (hs) (hz)), (b, oBs (cl.map own_by))] 0 0 (mkF m 0 #[.val (.ref a)] [])
  refine Goes.runS X [(.aload_n 0, 1)] (S' := [.ref a]) (pc' := 1) rfl ?_
  refine Goes.getF X 0 0 rfl rfl (wd hw 36 rfl) Via.refl ?_
  refine Goes.alen X 1 (n := Int32.ofNat n) rfl (own_len _ cl n hn) ?_
  show Goes _ _ _ _ _ _ _ _ _ _ _ _ _ _ _ _ _ _ _ _ [(a, o_String (.ref b) (.int 0) (hs) (hz)), (b, oBs (cl.map own_by))] 0 0 (mkF m 5 #[.val (.ref a)] [.int (Int32.ofNat n)])
  refine Goes.runS X [(.aload_n 0, 1)] (S' := [.ref a, .int (Int32.ofNat n)]) (pc' := 6) rfl ?_
  refine Goes.callV X 1 0 [0] [1] rfl (D_scod l Z a0 h0 hw cs hCS hcs a b hs hz) (wd hw 59 rfl) (wd hw 60 rfl) (wd hw 62 rfl) (wd hw 61 rfl) (own_nf X (wd hw 62 rfl)) (wd hw 7 rfl) (wd hw 63 rfl) pd_y_11 rfl (st := [.int (Int32.ofNat n)]) rfl rfl (G := [(b, oBs (cl.map own_by))]) rfl rfl ?_
  rintro _ _ ⟨rfl, rfl⟩
  refine ⟨Or.inr (Or.inr fun _ q => Or.inr (Or.inr q)), ?_⟩
  refine Goes.runS X [(.ishr, 1)] (S' := [.int ((Int32.ofNat n) >>> ((0 : Int32) &&& 31))]) (pc' := 10) rfl ?_
  rw [(own_n0 n hn2 hn0).2.2.1]
  show Goes _ _ _ _ _ _ _ _ _ _ _ _ _ _ _ _ _ _ _ _ [(a, o_String (.ref b) (.int 0) (hs) (hz)), (b, oBs (cl.map own_by))] 0 0 (mkF m 10 #[.val (.ref a)] [.int (Int32.ofNat n)])
  refine Goes.retI X (by simp) rfl ?_
  exact ⟨rfl, rfl⟩
set_option maxRecDepth 65536 in
set_option maxHeartbeats 40000000 in
theorem D_semp (l : Launch) (Z : State) (a0 : Array Value) (h0 : Heap) (hw : ∀ d ∈ tables_1, d.before a0 Z = true) (a b : Addr) (hs hz : Value) (cl : List Int32) (hid : ∀ c ∈ cl, own_id c = true) (n : Nat) (hn : cl.length = n) (hn0 : 0 < n) (hn2 : n ≤ 32) : Does l Z a0 h0 y_9 jdk_42_method_55_code 1 (some .boolean) ({ frames := 0, cells := 0, slots := 0, locals := 0 } : Room) #[.ref a] [(a, o_String (.ref b) (.int 0) (hs) (hz)), (b, oBs (cl.map own_by))] (fun v F => v = some (.int 0) ∧ F = [(a, o_String (.ref b) (.int 0) (hs) (hz)), (b, oBs (cl.map own_by))]) := by
  refine Does.mk #[.val (.ref a)] (plainFor_of_name (by decide +kernel)) (fun m => by first | (simp [entryFrame, mkF, argsToLocals, Value.category]; done) | rfl) ?_
  intro p e s m args below meth c h X
  show Goes _ _ _ _ _ _ _ _ _ _ _ _ _ _ _ _ _ _ _ _ [(a, o_String (.ref b) (.int 0) (hs) (hz)), (b, oBs (cl.map own_by))] 0 0 (mkF m 0 #[.val (.ref a)] [])
  refine Goes.runS X [(.aload_n 0, 1)] (S' := [.ref a]) (pc' := 1) rfl ?_
  refine Goes.getF X 0 0 rfl rfl (wd hw 36 rfl) Via.refl ?_
  refine Goes.alen X 1 (n := Int32.ofNat n) rfl (own_len _ cl n hn) ?_
  show Goes _ _ _ _ _ _ _ _ _ _ _ _ _ _ _ _ _ _ _ _ [(a, o_String (.ref b) (.int 0) (hs) (hz)), (b, oBs (cl.map own_by))] 0 0 (mkF m 5 #[.val (.ref a)] [.int (Int32.ofNat n)])
  refine Goes.if1 X (pc' := 12) (o := 7) (cd := .ne) (fun _ => ?_) (fun q => absurd (q.symm.trans (own_n0 n hn2 hn0).1) (by decide))
  refine Goes.runS X [(.iconst 0, 1)] (S' := [.int (0 : Int32)]) (pc' := 13) rfl ?_
  refine Goes.retI X (by simp) rfl ?_
  exact ⟨rfl, rfl⟩
set_option maxRecDepth 65536 in
set_option maxHeartbeats 40000000 in
theorem D_rnn (l : Launch) (Z : State) (a0 : Array Value) (h0 : Heap) (hw : ∀ d ∈ tables_1, d.before a0 Z = true) (a t : Addr) : Does l Z a0 h0 y_8 jdk_31_method_11_code 2 (some (.object "java/lang/Object")) ({ frames := 0, cells := 0, slots := 0, locals := 0 } : Room) #[.ref a, .ref t] [] (fun v F => v = some (.ref a) ∧ F = []) := by
  refine Does.mk #[.val (.ref a), .val (.ref t)] (plainFor_of_name (by decide +kernel)) (fun m => by first | (simp [entryFrame, mkF, argsToLocals, Value.category]; done) | rfl) ?_
  intro p e s m args below meth c h X
  show Goes _ _ _ _ _ _ _ _ _ _ _ _ _ _ _ _ _ _ _ _ [] 0 0 (mkF m 0 #[.val (.ref a), .val (.ref t)] [])
  refine Goes.runS X [(.aload_n 0, 1)] (S' := [.ref a]) (pc' := 1) rfl ?_
  refine Goes.nonY X (o := 12) (pc' := 13) ?_
  refine Goes.runS X [(.aload_n 0, 1)] (S' := [.ref a]) (pc' := 14) rfl ?_
  refine Goes.retA X rfl rfl rfl ?_
  exact ⟨rfl, rfl⟩
theorem own_idR0 : ∀ d : Nat, d < 128 → own_id (Int32.ofNat d) = true → (if_icmp.holds .lt (Int32.ofNat d) 65 && if_icmp.holds .lt (Int32.ofNat d) 97 && if_icmp.holds .lt (Int32.ofNat d) 48 && if_icmp.holds .ne (Int32.ofNat d) 95) = false := by decide +kernel
theorem own_idR1 : ∀ d : Nat, d < 128 → own_id (Int32.ofNat d) = true → (if_icmp.holds .lt (Int32.ofNat d) 65 && if_icmp.holds .lt (Int32.ofNat d) 97 && !if_icmp.holds .lt (Int32.ofNat d) 48 && !if_icmp.holds .le (Int32.ofNat d) 57 && if_icmp.holds .ne (Int32.ofNat d) 95) = false := by decide +kernel
theorem own_idR2 : ∀ d : Nat, d < 128 → own_id (Int32.ofNat d) = true → (if_icmp.holds .lt (Int32.ofNat d) 65 && !if_icmp.holds .lt (Int32.ofNat d) 97 && !if_icmp.holds .le (Int32.ofNat d) 122 && if_icmp.holds .lt (Int32.ofNat d) 48 && if_icmp.holds .ne (Int32.ofNat d) 95) = false := by decide +kernel
theorem own_idR3 : ∀ d : Nat, d < 128 → own_id (Int32.ofNat d) = true → (if_icmp.holds .lt (Int32.ofNat d) 65 && !if_icmp.holds .lt (Int32.ofNat d) 97 && !if_icmp.holds .le (Int32.ofNat d) 122 && !if_icmp.holds .lt (Int32.ofNat d) 48 && !if_icmp.holds .le (Int32.ofNat d) 57 && if_icmp.holds .ne (Int32.ofNat d) 95) = false := by decide +kernel
theorem own_idR4 : ∀ d : Nat, d < 128 → own_id (Int32.ofNat d) = true → (!if_icmp.holds .lt (Int32.ofNat d) 65 && !if_icmp.holds .le (Int32.ofNat d) 90 && if_icmp.holds .lt (Int32.ofNat d) 97 && if_icmp.holds .lt (Int32.ofNat d) 48 && if_icmp.holds .ne (Int32.ofNat d) 95) = false := by decide +kernel
theorem own_idR5 : ∀ d : Nat, d < 128 → own_id (Int32.ofNat d) = true → (!if_icmp.holds .lt (Int32.ofNat d) 65 && !if_icmp.holds .le (Int32.ofNat d) 90 && if_icmp.holds .lt (Int32.ofNat d) 97 && !if_icmp.holds .lt (Int32.ofNat d) 48 && !if_icmp.holds .le (Int32.ofNat d) 57 && if_icmp.holds .ne (Int32.ofNat d) 95) = false := by decide +kernel
theorem own_idR6 : ∀ d : Nat, d < 128 → own_id (Int32.ofNat d) = true → (!if_icmp.holds .lt (Int32.ofNat d) 65 && !if_icmp.holds .le (Int32.ofNat d) 90 && !if_icmp.holds .lt (Int32.ofNat d) 97 && !if_icmp.holds .le (Int32.ofNat d) 122 && if_icmp.holds .lt (Int32.ofNat d) 48 && if_icmp.holds .ne (Int32.ofNat d) 95) = false := by decide +kernel
theorem own_idR7 : ∀ d : Nat, d < 128 → own_id (Int32.ofNat d) = true → (!if_icmp.holds .lt (Int32.ofNat d) 65 && !if_icmp.holds .le (Int32.ofNat d) 90 && !if_icmp.holds .lt (Int32.ofNat d) 97 && !if_icmp.holds .le (Int32.ofNat d) 122 && !if_icmp.holds .lt (Int32.ofNat d) 48 && !if_icmp.holds .le (Int32.ofNat d) 57 && if_icmp.holds .ne (Int32.ofNat d) 95) = false := by decide +kernel
set_option maxRecDepth 65536 in
set_option maxHeartbeats 40000000 in
theorem D_isid (l : Launch) (Z : State) (a0 : Array Value) (h0 : Heap) (hw : ∀ d ∈ tables_1, d.before a0 Z = true) (d : Nat) (hd : d < 128) (hid : own_id (Int32.ofNat d) = true) : Does l Z a0 h0 y_17 prog_1_method_3_code 1 (some .boolean) ({ frames := 0, cells := 0, slots := 0, locals := 0 } : Room) #[.int (Int32.ofNat d)] [] (fun v F => v = some (.int 1) ∧ F = []) := by
  refine Does.mk #[.val (.int (Int32.ofNat d))] (plainFor_of_name (by decide +kernel)) (fun m => by first | (simp [entryFrame, mkF, argsToLocals, Value.category]; done) | rfl) ?_
  intro p e s m args below meth c h X
  show Goes _ _ _ _ _ _ _ _ _ _ _ _ _ _ _ _ _ _ _ _ [] 0 0 (mkF m 0 #[.val (.int (Int32.ofNat d))] [])
  refine Goes.runS X [(.iload_n 0, 1), (.bipush 65, 2)] (S' := [.int (65 : Int32), .int (Int32.ofNat d)]) (pc' := 3) rfl ?_
  refine Goes.if2 X (pc' := 12) (o := 9) (cd := .lt) (fun q12 => ?_) (fun q12 => ?_)
  · refine Goes.runS X [(.iload_n 0, 1), (.bipush 97, 2)] (S' := [.int (97 : Int32), .int (Int32.ofNat d)]) (pc' := 15) rfl ?_
    refine Goes.if2 X (pc' := 24) (o := 9) (cd := .lt) (fun q13 => ?_) (fun q13 => ?_)
    · refine Goes.runS X [(.iload_n 0, 1), (.bipush 48, 2)] (S' := [.int (48 : Int32), .int (Int32.ofNat d)]) (pc' := 27) rfl ?_
      refine Goes.if2 X (pc' := 36) (o := 9) (cd := .lt) (fun q14 => ?_) (fun q14 => ?_)
      · refine Goes.runS X [(.iload_n 0, 1), (.bipush 95, 2)] (S' := [.int (95 : Int32), .int (Int32.ofNat d)]) (pc' := 39) rfl ?_
        refine Goes.if2 X (pc' := 46) (o := 7) (cd := .ne) (fun q15 => ?_) (fun q15 => ?_)
        · refine Goes.runS X [(.iconst 0, 1)] (S' := [.int (0 : Int32)]) (pc' := 47) rfl ?_
          exact absurd (own_idR0 d hd hid) (by rw [q12, q13, q14, q15]; decide)
        · refine Goes.runS X [(.iconst 1, 1)] (S' := [.int (1 : Int32)]) (pc' := 43) rfl ?_
          refine Goes.goto X (o := 4) (pc' := 47) ?_
          refine Goes.retI X (by simp) rfl ?_
          exact ⟨rfl, rfl⟩
      · refine Goes.runS X [(.iload_n 0, 1), (.bipush 57, 2)] (S' := [.int (57 : Int32), .int (Int32.ofNat d)]) (pc' := 33) rfl ?_
        refine Goes.if2 X (pc' := 42) (o := 9) (cd := .le) (fun q16 => ?_) (fun q16 => ?_)
        · refine Goes.runS X [(.iconst 1, 1)] (S' := [.int (1 : Int32)]) (pc' := 43) rfl ?_
          refine Goes.goto X (o := 4) (pc' := 47) ?_
          refine Goes.retI X (by simp) rfl ?_
          exact ⟨rfl, rfl⟩
        · refine Goes.runS X [(.iload_n 0, 1), (.bipush 95, 2)] (S' := [.int (95 : Int32), .int (Int32.ofNat d)]) (pc' := 39) rfl ?_
          refine Goes.if2 X (pc' := 46) (o := 7) (cd := .ne) (fun q17 => ?_) (fun q17 => ?_)
          · refine Goes.runS X [(.iconst 0, 1)] (S' := [.int (0 : Int32)]) (pc' := 47) rfl ?_
            exact absurd (own_idR1 d hd hid) (by rw [q12, q13, q14, q16, q17]; decide)
          · refine Goes.runS X [(.iconst 1, 1)] (S' := [.int (1 : Int32)]) (pc' := 43) rfl ?_
            refine Goes.goto X (o := 4) (pc' := 47) ?_
            refine Goes.retI X (by simp) rfl ?_
            exact ⟨rfl, rfl⟩
    · refine Goes.runS X [(.iload_n 0, 1), (.bipush 122, 2)] (S' := [.int (122 : Int32), .int (Int32.ofNat d)]) (pc' := 21) rfl ?_
      refine Goes.if2 X (pc' := 42) (o := 21) (cd := .le) (fun q18 => ?_) (fun q18 => ?_)
      · refine Goes.runS X [(.iconst 1, 1)] (S' := [.int (1 : Int32)]) (pc' := 43) rfl ?_
        refine Goes.goto X (o := 4) (pc' := 47) ?_
        refine Goes.retI X (by simp) rfl ?_
        exact ⟨rfl, rfl⟩
      · refine Goes.runS X [(.iload_n 0, 1), (.bipush 48, 2)] (S' := [.int (48 : Int32), .int (Int32.ofNat d)]) (pc' := 27) rfl ?_
        refine Goes.if2 X (pc' := 36) (o := 9) (cd := .lt) (fun q19 => ?_) (fun q19 => ?_)
        · refine Goes.runS X [(.iload_n 0, 1), (.bipush 95, 2)] (S' := [.int (95 : Int32), .int (Int32.ofNat d)]) (pc' := 39) rfl ?_
          refine Goes.if2 X (pc' := 46) (o := 7) (cd := .ne) (fun q20 => ?_) (fun q20 => ?_)
          · refine Goes.runS X [(.iconst 0, 1)] (S' := [.int (0 : Int32)]) (pc' := 47) rfl ?_
            exact absurd (own_idR2 d hd hid) (by rw [q12, q13, q18, q19, q20]; decide)
          · refine Goes.runS X [(.iconst 1, 1)] (S' := [.int (1 : Int32)]) (pc' := 43) rfl ?_
            refine Goes.goto X (o := 4) (pc' := 47) ?_
            refine Goes.retI X (by simp) rfl ?_
            exact ⟨rfl, rfl⟩
        · refine Goes.runS X [(.iload_n 0, 1), (.bipush 57, 2)] (S' := [.int (57 : Int32), .int (Int32.ofNat d)]) (pc' := 33) rfl ?_
          refine Goes.if2 X (pc' := 42) (o := 9) (cd := .le) (fun q21 => ?_) (fun q21 => ?_)
          · refine Goes.runS X [(.iconst 1, 1)] (S' := [.int (1 : Int32)]) (pc' := 43) rfl ?_
            refine Goes.goto X (o := 4) (pc' := 47) ?_
            refine Goes.retI X (by simp) rfl ?_
            exact ⟨rfl, rfl⟩
          · refine Goes.runS X [(.iload_n 0, 1), (.bipush 95, 2)] (S' := [.int (95 : Int32), .int (Int32.ofNat d)]) (pc' := 39) rfl ?_
            refine Goes.if2 X (pc' := 46) (o := 7) (cd := .ne) (fun q22 => ?_) (fun q22 => ?_)
            · refine Goes.runS X [(.iconst 0, 1)] (S' := [.int (0 : Int32)]) (pc' := 47) rfl ?_
              exact absurd (own_idR3 d hd hid) (by rw [q12, q13, q18, q19, q21, q22]; decide)
            · refine Goes.runS X [(.iconst 1, 1)] (S' := [.int (1 : Int32)]) (pc' := 43) rfl ?_
              refine Goes.goto X (o := 4) (pc' := 47) ?_
              refine Goes.retI X (by simp) rfl ?_
              exact ⟨rfl, rfl⟩
  · refine Goes.runS X [(.iload_n 0, 1), (.bipush 90, 2)] (S' := [.int (90 : Int32), .int (Int32.ofNat d)]) (pc' := 9) rfl ?_
    refine Goes.if2 X (pc' := 42) (o := 33) (cd := .le) (fun q23 => ?_) (fun q23 => ?_)
    · refine Goes.runS X [(.iconst 1, 1)] (S' := [.int (1 : Int32)]) (pc' := 43) rfl ?_
      refine Goes.goto X (o := 4) (pc' := 47) ?_
      refine Goes.retI X (by simp) rfl ?_
      exact ⟨rfl, rfl⟩
    · refine Goes.runS X [(.iload_n 0, 1), (.bipush 97, 2)] (S' := [.int (97 : Int32), .int (Int32.ofNat d)]) (pc' := 15) rfl ?_
      refine Goes.if2 X (pc' := 24) (o := 9) (cd := .lt) (fun q24 => ?_) (fun q24 => ?_)
      · refine Goes.runS X [(.iload_n 0, 1), (.bipush 48, 2)] (S' := [.int (48 : Int32), .int (Int32.ofNat d)]) (pc' := 27) rfl ?_
        refine Goes.if2 X (pc' := 36) (o := 9) (cd := .lt) (fun q25 => ?_) (fun q25 => ?_)
        · refine Goes.runS X [(.iload_n 0, 1), (.bipush 95, 2)] (S' := [.int (95 : Int32), .int (Int32.ofNat d)]) (pc' := 39) rfl ?_
          refine Goes.if2 X (pc' := 46) (o := 7) (cd := .ne) (fun q26 => ?_) (fun q26 => ?_)
          · refine Goes.runS X [(.iconst 0, 1)] (S' := [.int (0 : Int32)]) (pc' := 47) rfl ?_
            exact absurd (own_idR4 d hd hid) (by rw [q12, q23, q24, q25, q26]; decide)
          · refine Goes.runS X [(.iconst 1, 1)] (S' := [.int (1 : Int32)]) (pc' := 43) rfl ?_
            refine Goes.goto X (o := 4) (pc' := 47) ?_
            refine Goes.retI X (by simp) rfl ?_
            exact ⟨rfl, rfl⟩
        · refine Goes.runS X [(.iload_n 0, 1), (.bipush 57, 2)] (S' := [.int (57 : Int32), .int (Int32.ofNat d)]) (pc' := 33) rfl ?_
          refine Goes.if2 X (pc' := 42) (o := 9) (cd := .le) (fun q27 => ?_) (fun q27 => ?_)
          · refine Goes.runS X [(.iconst 1, 1)] (S' := [.int (1 : Int32)]) (pc' := 43) rfl ?_
            refine Goes.goto X (o := 4) (pc' := 47) ?_
            refine Goes.retI X (by simp) rfl ?_
            exact ⟨rfl, rfl⟩
          · refine Goes.runS X [(.iload_n 0, 1), (.bipush 95, 2)] (S' := [.int (95 : Int32), .int (Int32.ofNat d)]) (pc' := 39) rfl ?_
            refine Goes.if2 X (pc' := 46) (o := 7) (cd := .ne) (fun q28 => ?_) (fun q28 => ?_)
            · refine Goes.runS X [(.iconst 0, 1)] (S' := [.int (0 : Int32)]) (pc' := 47) rfl ?_
              exact absurd (own_idR5 d hd hid) (by rw [q12, q23, q24, q25, q27, q28]; decide)
            · refine Goes.runS X [(.iconst 1, 1)] (S' := [.int (1 : Int32)]) (pc' := 43) rfl ?_
              refine Goes.goto X (o := 4) (pc' := 47) ?_
              refine Goes.retI X (by simp) rfl ?_
              exact ⟨rfl, rfl⟩
      · refine Goes.runS X [(.iload_n 0, 1), (.bipush 122, 2)] (S' := [.int (122 : Int32), .int (Int32.ofNat d)]) (pc' := 21) rfl ?_
        refine Goes.if2 X (pc' := 42) (o := 21) (cd := .le) (fun q29 => ?_) (fun q29 => ?_)
        · refine Goes.runS X [(.iconst 1, 1)] (S' := [.int (1 : Int32)]) (pc' := 43) rfl ?_
          refine Goes.goto X (o := 4) (pc' := 47) ?_
          refine Goes.retI X (by simp) rfl ?_
          exact ⟨rfl, rfl⟩
        · refine Goes.runS X [(.iload_n 0, 1), (.bipush 48, 2)] (S' := [.int (48 : Int32), .int (Int32.ofNat d)]) (pc' := 27) rfl ?_
          refine Goes.if2 X (pc' := 36) (o := 9) (cd := .lt) (fun q30 => ?_) (fun q30 => ?_)
          · refine Goes.runS X [(.iload_n 0, 1), (.bipush 95, 2)] (S' := [.int (95 : Int32), .int (Int32.ofNat d)]) (pc' := 39) rfl ?_
            refine Goes.if2 X (pc' := 46) (o := 7) (cd := .ne) (fun q31 => ?_) (fun q31 => ?_)
            · refine Goes.runS X [(.iconst 0, 1)] (S' := [.int (0 : Int32)]) (pc' := 47) rfl ?_
              exact absurd (own_idR6 d hd hid) (by rw [q12, q23, q24, q29, q30, q31]; decide)
            · refine Goes.runS X [(.iconst 1, 1)] (S' := [.int (1 : Int32)]) (pc' := 43) rfl ?_
              refine Goes.goto X (o := 4) (pc' := 47) ?_
              refine Goes.retI X (by simp) rfl ?_
              exact ⟨rfl, rfl⟩
          · refine Goes.runS X [(.iload_n 0, 1), (.bipush 57, 2)] (S' := [.int (57 : Int32), .int (Int32.ofNat d)]) (pc' := 33) rfl ?_
            refine Goes.if2 X (pc' := 42) (o := 9) (cd := .le) (fun q32 => ?_) (fun q32 => ?_)
            · refine Goes.runS X [(.iconst 1, 1)] (S' := [.int (1 : Int32)]) (pc' := 43) rfl ?_
              refine Goes.goto X (o := 4) (pc' := 47) ?_
              refine Goes.retI X (by simp) rfl ?_
              exact ⟨rfl, rfl⟩
            · refine Goes.runS X [(.iload_n 0, 1), (.bipush 95, 2)] (S' := [.int (95 : Int32), .int (Int32.ofNat d)]) (pc' := 39) rfl ?_
              refine Goes.if2 X (pc' := 46) (o := 7) (cd := .ne) (fun q33 => ?_) (fun q33 => ?_)
              · refine Goes.runS X [(.iconst 0, 1)] (S' := [.int (0 : Int32)]) (pc' := 47) rfl ?_
                exact absurd (own_idR7 d hd hid) (by rw [q12, q23, q24, q29, q30, q32, q33]; decide)
              · refine Goes.runS X [(.iconst 1, 1)] (S' := [.int (1 : Int32)]) (pc' := 43) rfl ?_
                refine Goes.goto X (o := 4) (pc' := 47) ?_
                refine Goes.retI X (by simp) rfl ?_
                exact ⟨rfl, rfl⟩
theorem pf_2 : parseFieldDescriptor "Ljava/lang/String;" = some (.object "java/lang/String") := by decide +kernel
set_option maxRecDepth 65536 in
set_option maxHeartbeats 40000000 in
theorem D_actor (l : Launch) (Z : State) (a0 : Array Value) (h0 : Heap) (hw : ∀ d ∈ tables_1, d.before a0 Z = true) (o a : Addr) : Does l Z a0 h0 y_18 prog_1_method_1_code 2 none ({ frames := 1, cells := 0, slots := 0, locals := 12 } : Room) #[.ref o, .ref a] [(o, o_Acc .null)] (fun v F => v = none ∧ F = [(o, o_Acc (.ref a))]) := by
  refine Does.mk #[.val (.ref o), .val (.ref a)] (plainFor_of_name (by decide +kernel)) (fun m => by first | (simp [entryFrame, mkF, argsToLocals, Value.category]; done) | rfl) ?_
  intro p e s m args below meth c h X
  show Goes _ _ _ _ _ _ _ _ _ _ _ _ _ _ _ _ _ _ _ _ [(o, o_Acc .null)] 0 0 (mkF m 0 #[.val (.ref o), .val (.ref a)] [])
  refine Goes.runS X [(.aload_n 0, 1)] (S' := [.ref o]) (pc' := 1) rfl ?_
  refine Goes.initO X 0 (wd hw 94 rfl) (wd hw 20 rfl) (wd hw 21 rfl) rfl ?_
  refine Goes.runS X [(.aload_n 0, 1), (.aload_n 1, 1)] (S' := [.ref a, .ref o]) (pc' := 6) rfl ?_
  refine Goes.putF X 0 0 rfl rfl (wd hw 95 rfl) Via.refl (Or.inr ⟨(wd hw 96 rfl), rfl, rfl⟩) (wd hw 90 rfl) (own_hn rfl rfl nd_Acc) (ty := (.object "java/lang/String")) pf_2 rfl rfl ?_
  refine Goes.retV X ?_
  exact ⟨rfl, rfl⟩
set_option maxRecDepth 65536 in
set_option maxHeartbeats 40000000 in
theorem D_of (l : Launch) (Z : State) (a0 : Array Value) (h0 : Heap) (hw : ∀ d ∈ tables_1, d.before a0 Z = true) (cs : Int32) (hCS : Sta Z h0 "java/lang/String" "COMPACT_STRINGS" "Z" (.int cs)) (hcs : ¬ cs = 0) (sio : Value) (hSIO : Sta Z h0 "jdk/internal/util/Preconditions" "SIOOBE_FORMATTER" "Ljava/util/function/BiFunction;" sio) (hsio : sio.category = 1) (a b : Addr) (hs hz : Value) (cl : List Int32) (hid : ∀ c ∈ cl, own_id c = true) (n : Nat) (hn : cl.length = n) (hn0 : 0 < n) (hn2 : n ≤ 32) : DoesW l Z a0 own_EL h0 y_7 prog_1_method_2_code 2 (some (.object "com/example/woven_feed/wovenfeed/AccountId")) ({ frames := 4, cells := 3, slots := 21, locals := 53 } : Room) #[.ref a] [(a, o_String (.ref b) (.int 0) (hs) (hz)), (b, oBs (cl.map own_by))] (fun v F => ∃ o, v = some (.ref o) ∧ F = [(o, o_Acc (.ref a)), (a, o_String (.ref b) (.int 0) (hs) (hz)), (b, oBs (cl.map own_by))]) := by
  refine DoesW.mk #[.val (.ref a), .unset] (plainFor_of_name (by decide +kernel)) (fun m => by first | (simp [entryFrame, mkF, argsToLocals, Value.category]; done) | rfl) ?_
  intro p e s0 vmS vm0 k0 m args below meth c h X
  show Goes _ _ _ _ _ _ _ _ _ _ _ _ _ _ _ _ _ _ _ _ [(a, o_String (.ref b) (.int 0) (hs) (hz)), (b, oBs (cl.map own_by))] 0 0 (mkF m 0 #[.val (.ref a), .unset] [])
  refine Goes.runS X [(.aload_n 0, 1)] (S' := [.ref a]) (pc' := 1) rfl ?_
  refine Goes.ldcO X 16 (wd hw 42 rfl) (own_wS hw) (by decide) (fun a34 vm0 k0 X => ?_)
  refine Goes.callS X 0 [] [0, 1] (D_rnn l Z a0 h0 hw a a34) (wd hw 45 rfl) (wd hw 46 rfl) (wd hw 47 rfl) (wd hw 48 rfl) pd_y_8 rfl (st := []) rfl rfl (G := [(a, o_String (.ref b) (.int 0) (hs) (hz)), (b, oBs (cl.map own_by))]) rfl rfl ?_
  rintro _ _ ⟨rfl, rfl⟩
  refine ⟨Or.inr (Or.inr fun _ q => Or.inr (Or.inr q)), ?_⟩
  refine Goes.runS X [(.pop, 1), (.aload_n 0, 1)] (S' := [.ref a]) (pc' := 8) rfl ?_
  refine Goes.callV X 0 0 [0, 1] [] rfl (D_semp l Z a0 h0 hw a b hs hz cl hid n hn hn0 hn2) (wd hw 49 rfl) (wd hw 50 rfl) (wd hw 52 rfl) (wd hw 51 rfl) (own_nf X (wd hw 52 rfl)) (wd hw 7 rfl) (wd hw 53 rfl) pd_y_9 rfl (st := []) rfl rfl (G := []) rfl rfl ?_
  rintro _ _ ⟨rfl, rfl⟩
  refine ⟨Or.inr (Or.inr fun _ q => Or.inr (Or.inr q)), ?_⟩
  refine Goes.if1 X (pc' := 24) (o := 13) (cd := .eq) (fun _ => ?_) (fun q => absurd q (by decide))
  refine Goes.runS X [(.aload_n 0, 1)] (S' := [.ref a]) (pc' := 25) rfl ?_
  refine Goes.callV X 0 0 [0, 1] [] rfl (D_slen l Z a0 h0 hw cs hCS hcs a b hs hz cl hid n hn hn0 hn2) (wd hw 54 rfl) (wd hw 55 rfl) (wd hw 57 rfl) (wd hw 56 rfl) (own_nf X (wd hw 57 rfl)) (wd hw 7 rfl) (wd hw 58 rfl) pd_y_10 rfl (st := []) rfl rfl (G := []) rfl rfl ?_
  rintro _ _ ⟨rfl, rfl⟩
  refine ⟨Or.inr (Or.inr fun _ q => Or.inr (Or.inr q)), ?_⟩
  refine Goes.runS X [(.bipush 32, 2)] (S' := [.int (32 : Int32), .int (Int32.ofNat n)]) (pc' := 30) rfl ?_
  refine Goes.if2 X (pc' := 43) (o := 13) (cd := .le) (fun _ => ?_) (fun q => absurd (q.symm.trans (own_n0 n hn2 hn0).2.1) (by decide))
  refine Goes.run X [(.iconst 0, 1), (.istore_n 1, 1)] (L' := #[.val (.ref a), .val (.int (0 : Int32))]) (S' := []) (pc' := 45) rfl ?_
  have lp : ∀ (k j : Nat) , j + k = n → Goes p l e ({ frames := 4, cells := 3, slots := 21, locals := 53 } : Room) (s0.setVm vm0) m args below meth c Z a0 (some (own_EL, vmS, vm0, k0)) s0 h0 h [(a, o_String (.ref b) (.int 0) (hs) (hz)), (b, oBs (cl.map own_by))] ({ frames := 4, cells := 3, slots := 21, locals := 53 } : Room).cells ({ frames := 4, cells := 3, slots := 21, locals := 53 } : Room).slots (fun v F => ∃ o, v = some (.ref o) ∧ F = [(o, o_Acc (.ref a)), (a, o_String (.ref b) (.int 0) (hs) (hz)), (b, oBs (cl.map own_by))]) [(a, o_String (.ref b) (.int 0) (hs) (hz)), (b, oBs (cl.map own_by))] 2 20 (mkF m 45 #[.val (.ref a), .val (.int (Int32.ofNat j))] []) := by
    intro k
    induction k with
    | zero =>
      intro j  hj
      obtain rfl : n = j := by omega
      refine Goes.runS X [(.iload_n 1, 1), (.aload_n 0, 1)] (S' := [.ref a, .int (Int32.ofNat n)]) (pc' := 47) rfl ?_
      refine Goes.callV X 1 0 [0, 1] [] rfl (D_slen l Z a0 h0 hw cs hCS hcs a b hs hz cl hid n hn hn0 hn2) (wd hw 54 rfl) (wd hw 55 rfl) (wd hw 57 rfl) (wd hw 56 rfl) (own_nf X (wd hw 57 rfl)) (wd hw 7 rfl) (wd hw 58 rfl) pd_y_10 rfl (st := [.int (Int32.ofNat n)]) rfl rfl (G := []) rfl rfl ?_
      rintro _ _ ⟨rfl, rfl⟩
      refine ⟨Or.inr (Or.inr fun _ q => Or.inr (Or.inr q)), ?_⟩
      refine Goes.if2 X (pc' := 86) (o := 36) (cd := .ge) (fun _ => ?_) (fun q => absurd (q.symm.trans (by rw [own_ge _ hn2 _ hn2]; simp : if_icmp.holds .ge (Int32.ofNat n) (Int32.ofNat n) = true)) (by decide))
      refine Goes.new X _ (wd hw 89 rfl) (wd hw 90 rfl) (wd hw 40 rfl) (new_Acc hw) (fun a36 => ?_)
      refine Goes.runS X [(.dup, 1), (.aload_n 0, 1)] (S' := [.ref a, .ref a36, .ref a36]) (pc' := 91) rfl ?_
      refine Goes.callN X 1 [2] [0, 1] (D_actor l Z a0 h0 hw a36 a) rfl (wd hw 91 rfl) (wd hw 92 rfl) (wd hw 40 rfl) (wd hw 93 rfl) pd_y_18 rfl (st := [.ref a36]) rfl rfl (G := [(a, o_String (.ref b) (.int 0) (hs) (hz)), (b, oBs (cl.map own_by))]) rfl rfl ?_
      rintro _ _ ⟨rfl, rfl⟩
      refine ⟨Or.inl rfl, ?_⟩
      refine Goes.retA X rfl rfl rfl ?_
      exact ⟨a36, rfl, rfl⟩
    | succ k ih =>
      intro j  hj
      have hlt : j < n := by omega
      obtain ⟨c1, hc1, hm⟩ := own_at cl j n hn hlt
      have hi1 := hid c1 hm
      have hg := own_i255 hi1
      have hq := own_jn j (by omega)
      obtain ⟨d, hd, hcd⟩ := own_idN c1 hi1
      refine Goes.runS X [(.iload_n 1, 1), (.aload_n 0, 1)] (S' := [.ref a, .int (Int32.ofNat j)]) (pc' := 47) rfl ?_
      refine Goes.callV X 1 0 [0, 1] [] rfl (D_slen l Z a0 h0 hw cs hCS hcs a b hs hz cl hid n hn hn0 hn2) (wd hw 54 rfl) (wd hw 55 rfl) (wd hw 57 rfl) (wd hw 56 rfl) (own_nf X (wd hw 57 rfl)) (wd hw 7 rfl) (wd hw 58 rfl) pd_y_10 rfl (st := [.int (Int32.ofNat j)]) rfl rfl (G := []) rfl rfl ?_
      rintro _ _ ⟨rfl, rfl⟩
      refine ⟨Or.inr (Or.inr fun _ q => Or.inr (Or.inr q)), ?_⟩
      refine Goes.if2 X (pc' := 86) (o := 36) (cd := .ge) (fun q => absurd (q.symm.trans (by rw [own_ge j (by omega) n hn2]; simp; omega : if_icmp.holds .ge (Int32.ofNat j) (Int32.ofNat n) = false)) (by decide)) (fun _ => ?_)
      refine Goes.runS X [(.aload_n 0, 1), (.iload_n 1, 1)] (S' := [.int (Int32.ofNat j), .ref a]) (pc' := 55) rfl ?_
      refine Goes.callV X 0 0 [0, 1] [] rfl (D_ca l Z a0 h0 hw cs hCS hcs sio hSIO hsio b 0 0 a "[B" _ (Int32.ofNat n) (Int32.ofNat j) j (own_len _ cl n hn) hq.1 hq.2.1 (own_jlt j (by omega) n hn2 hlt) (oI2b c1) (own_mp own_by hc1) hs hz) (wd hw 64 rfl) (wd hw 65 rfl) (wd hw 67 rfl) (wd hw 66 rfl) (own_nf X (wd hw 67 rfl)) (wd hw 7 rfl) (wd hw 68 rfl) pd_y_12 rfl (st := []) rfl rfl (G := []) rfl rfl ?_
      rintro _ _ ⟨rfl, rfl⟩
      refine ⟨Or.inr (Or.inr fun _ q => Or.inr (Or.inr q)), ?_⟩
      rw [hg.2.2.2, hcd]
      show Goes _ _ _ _ _ _ _ _ _ _ _ _ _ _ _ _ _ _ _ _ [(a, o_String (.ref b) (.int 0) (hs) (hz)), (b, oBs (cl.map own_by))] 2 20 (mkF m 58 #[.val (.ref a), .val (.int (Int32.ofNat j))] [.int (Int32.ofNat d)])
      refine Goes.callS X 0 [] [0, 1] (D_isid l Z a0 h0 hw d hd (hcd ▸ hi1)) (wd hw 86 rfl) (wd hw 87 rfl) (wd hw 40 rfl) (wd hw 88 rfl) pd_y_17 rfl (st := []) rfl rfl (G := [(a, o_String (.ref b) (.int 0) (hs) (hz)), (b, oBs (cl.map own_by))]) rfl rfl ?_
      rintro _ _ ⟨rfl, rfl⟩
      refine ⟨Or.inr (Or.inr fun _ q => Or.inr (Or.inr q)), ?_⟩
      refine Goes.if1 X (pc' := 80) (o := 19) (cd := .ne) (fun _ => ?_) (fun q => absurd q (by decide))
      refine Goes.run X [(.iinc 1 1, 3)] (L' := #[.val (.ref a), .val (.int ((Int32.ofNat j) + (1 : Int32)))]) (S' := []) (pc' := 83) rfl ?_
      rw [hq.2.2]
      show Goes _ _ _ _ _ _ _ _ _ _ _ _ _ _ _ _ _ _ _ _ [(a, o_String (.ref b) (.int 0) (hs) (hz)), (b, oBs (cl.map own_by))] 2 20 (mkF m 83 #[.val (.ref a), .val (.int (Int32.ofNat (j + 1)))] [])
      refine Goes.goto X (o := (-38)) (pc' := 45) ?_
      exact ih (j + 1) (by omega)
  exact lp n 0 (by omega)
set_option maxRecDepth 65536 in
set_option maxHeartbeats 40000000 in
theorem D_tos (l : Launch) (Z : State) (a0 : Array Value) (h0 : Heap) (hw : ∀ d ∈ tables_1, d.before a0 Z = true) (o a : Addr) : Does l Z a0 h0 y_19 prog_1_method_6_code 1 (some (.object "java/lang/String")) ({ frames := 0, cells := 0, slots := 0, locals := 0 } : Room) #[.ref o] [(o, o_Acc (.ref a))] (fun v F => v = some (.ref a) ∧ F = [(o, o_Acc (.ref a))]) := by
  refine Does.mk #[.val (.ref o)] (plainFor_of_name (by decide +kernel)) (fun m => by first | (simp [entryFrame, mkF, argsToLocals, Value.category]; done) | rfl) ?_
  intro p e s m args below meth c h X
  show Goes _ _ _ _ _ _ _ _ _ _ _ _ _ _ _ _ _ _ _ _ [(o, o_Acc (.ref a))] 0 0 (mkF m 0 #[.val (.ref o)] [])
  refine Goes.runS X [(.aload_n 0, 1)] (S' := [.ref o]) (pc' := 1) rfl ?_
  refine Goes.getF X 0 0 rfl rfl (wd hw 95 rfl) Via.refl ?_
  refine Goes.retA X rfl rfl rfl ?_
  exact ⟨rfl, rfl⟩
set_option maxRecDepth 65536 in
set_option maxHeartbeats 40000000 in
theorem D_seq1 (l : Launch) (Z : State) (a0 : Array Value) (h0 : Heap) (hw : ∀ d ∈ tables_1, d.before a0 Z = true) (a : Addr) : Does l Z a0 h0 y_20 jdk_42_method_66_code 3 (some .boolean) ({ frames := 0, cells := 0, slots := 0, locals := 0 } : Room) #[.ref a, .ref a] [] (fun v F => v = some (.int 1) ∧ F = []) := by
  refine Does.mk #[.val (.ref a), .val (.ref a), .unset] (plainFor_of_name (by decide +kernel)) (fun m => by first | (simp [entryFrame, mkF, argsToLocals, Value.category]; done) | rfl) ?_
  intro p e s m args below meth c h X
  show Goes _ _ _ _ _ _ _ _ _ _ _ _ _ _ _ _ _ _ _ _ [] 0 0 (mkF m 0 #[.val (.ref a), .val (.ref a), .unset] [])
  refine Goes.runS X [(.aload_n 0, 1), (.aload_n 1, 1)] (S' := [.ref a, .ref a]) (pc' := 2) rfl ?_
  refine Goes.ifA X rfl rfl (pc' := 7) (o := 5) (cd := .ne) (fun q => absurd (q.symm.trans (by simp [acV] : acV .ne (decide (Value.ref a = Value.ref a)) = false)) (by decide)) (fun _ => ?_)
  refine Goes.runS X [(.iconst 1, 1)] (S' := [.int (1 : Int32)]) (pc' := 6) rfl ?_
  refine Goes.retI X (by simp) rfl ?_
  exact ⟨rfl, rfl⟩
def own_eq (cl el : List Int32) : Int32 := if cl = el then 1 else 0
theorem own_eq_n {cl el : List Int32} {n : Nat} (h : cl.length = n) (g : el.length = n) (q : cl.take n = el.take n) : own_eq cl el = 1 := by
  rw [List.take_of_length_le (by omega), List.take_of_length_le (by omega)] at q
  rw [own_eq, if_pos q]
theorem own_eq_f {cl el : List Int32} {j : Nat} {c e : Int32} (h : cl[j]? = some c) (g : el[j]? = some e) (q : ¬ c = e) : own_eq cl el = 0 := by
  rw [own_eq, if_neg]
  intro z; subst z; rw [h] at g; exact q (Option.some.inj g)
theorem own_eq_s {cl el : List Int32} {j : Nat} {c : Int32} (h : cl[j]? = some c) (g : el[j]? = some c) (q : cl.take j = el.take j) : cl.take (j + 1) = el.take (j + 1) := by
  rw [List.take_add_one, List.take_add_one, h, g, q]
set_option maxRecDepth 65536 in
set_option maxHeartbeats 40000000 in
theorem D_leq (l : Launch) (Z : State) (a0 : Array Value) (h0 : Heap) (hw : ∀ d ∈ tables_1, d.before a0 Z = true) (b g : Addr) (cl el : List Int32) (hid : ∀ c ∈ cl, own_id c = true) (gid : ∀ c ∈ el, own_id c = true) (n : Nat) (hn : cl.length = n) (gn : el.length = n) (hn0 : 0 < n) (hn2 : n ≤ 32) : Does l Z a0 h0 y_22 jdk_43_method_13_code 3 (some .boolean) ({ frames := 0, cells := 0, slots := 0, locals := 0 } : Room) #[.ref b, .ref g] [(b, oBs (cl.map own_by)), (g, oBs (el.map own_by))] (fun v F => v = some (.int (own_eq cl el)) ∧ F = [(b, oBs (cl.map own_by)), (g, oBs (el.map own_by))]) := by
  refine Does.mk #[.val (.ref b), .val (.ref g), .unset] (plainFor_of_name (by decide +kernel)) (fun m => by first | (simp [entryFrame, mkF, argsToLocals, Value.category]; done) | rfl) ?_
  intro p e s m args below meth c h X
  show Goes _ _ _ _ _ _ _ _ _ _ _ _ _ _ _ _ _ _ _ _ [(b, oBs (cl.map own_by)), (g, oBs (el.map own_by))] 0 0 (mkF m 0 #[.val (.ref b), .val (.ref g), .unset] [])
  refine Goes.runS X [(.aload_n 0, 1)] (S' := [.ref b]) (pc' := 1) rfl ?_
  refine Goes.alen X 0 (n := Int32.ofNat n) rfl (own_len _ cl n hn) ?_
  show Goes _ _ _ _ _ _ _ _ _ _ _ _ _ _ _ _ _ _ _ _ [(b, oBs (cl.map own_by)), (g, oBs (el.map own_by))] 0 0 (mkF m 2 #[.val (.ref b), .val (.ref g), .unset] [.int (Int32.ofNat n)])
  refine Goes.runS X [(.aload_n 1, 1)] (S' := [.ref g, .int (Int32.ofNat n)]) (pc' := 3) rfl ?_
  refine Goes.alen X 1 (n := Int32.ofNat n) rfl (own_len _ el n gn) ?_
  show Goes _ _ _ _ _ _ _ _ _ _ _ _ _ _ _ _ _ _ _ _ [(b, oBs (cl.map own_by)), (g, oBs (el.map own_by))] 0 0 (mkF m 4 #[.val (.ref b), .val (.ref g), .unset] [.int (Int32.ofNat n), .int (Int32.ofNat n)])
  refine Goes.if2 X (pc' := 34) (o := 30) (cd := .ne) (fun q => absurd (q.symm.trans (by simp [if_icmp.holds] : if_icmp.holds .ne (Int32.ofNat n) (Int32.ofNat n) = false)) (by decide)) (fun _ => ?_)
  have lp : ∀ (k j : Nat) (hq0 : cl.take j = el.take j), j + k = n → Goes p l e ({ frames := 0, cells := 0, slots := 0, locals := 0 } : Room) s m args below meth c Z a0 none s h0 h [(b, oBs (cl.map own_by)), (g, oBs (el.map own_by))] ({ frames := 0, cells := 0, slots := 0, locals := 0 } : Room).cells ({ frames := 0, cells := 0, slots := 0, locals := 0 } : Room).slots (fun v F => v = some (.int (own_eq cl el)) ∧ F = [(b, oBs (cl.map own_by)), (g, oBs (el.map own_by))]) [(b, oBs (cl.map own_by)), (g, oBs (el.map own_by))] 0 0 (mkF m 9 #[.val (.ref b), .val (.ref g), .val (.int (Int32.ofNat j))] []) := by
    intro k
    induction k with
    | zero =>
      intro j hq0 hj
      obtain rfl : n = j := by omega
      refine Goes.runS X [(.iload_n 2, 1), (.aload_n 0, 1)] (S' := [.ref b, .int (Int32.ofNat n)]) (pc' := 11) rfl ?_
      refine Goes.alen X 0 (n := Int32.ofNat n) rfl (own_len _ cl n hn) ?_
      show Goes _ _ _ _ _ _ _ _ _ _ _ _ _ _ _ _ _ _ _ _ [(b, oBs (cl.map own_by)), (g, oBs (el.map own_by))] 0 0 (mkF m 12 #[.val (.ref b), .val (.ref g), .val (.int (Int32.ofNat n))] [.int (Int32.ofNat n), .int (Int32.ofNat n)])
      refine Goes.if2 X (pc' := 32) (o := 20) (cd := .ge) (fun _ => ?_) (fun q => absurd (q.symm.trans (by rw [own_ge _ hn2 _ hn2]; simp : if_icmp.holds .ge (Int32.ofNat n) (Int32.ofNat n) = true)) (by decide))
      refine Goes.runS X [(.iconst 1, 1)] (S' := [.int (1 : Int32)]) (pc' := 33) rfl ?_
      refine Goes.retI X (by simp) rfl ?_
      exact ⟨by rw [own_eq_n hn gn hq0], rfl⟩
    | succ k ih =>
      intro j hq0 hj
      have hlt : j < n := by omega
      obtain ⟨c1, hc1, hm⟩ := own_at cl j n hn hlt
      obtain ⟨c2, hc2, gm⟩ := own_at el j n gn hlt
      have hq := own_jn j (by omega)
      refine Goes.runS X [(.iload_n 2, 1), (.aload_n 0, 1)] (S' := [.ref b, .int (Int32.ofNat j)]) (pc' := 11) rfl ?_
      refine Goes.alen X 0 (n := Int32.ofNat n) rfl (own_len _ cl n hn) ?_
      show Goes _ _ _ _ _ _ _ _ _ _ _ _ _ _ _ _ _ _ _ _ [(b, oBs (cl.map own_by)), (g, oBs (el.map own_by))] 0 0 (mkF m 12 #[.val (.ref b), .val (.ref g), .val (.int (Int32.ofNat j))] [.int (Int32.ofNat n), .int (Int32.ofNat j)])
      refine Goes.if2 X (pc' := 32) (o := 20) (cd := .ge) (fun q => absurd (q.symm.trans (by rw [own_ge j (by omega) n hn2]; simp; omega : if_icmp.holds .ge (Int32.ofNat j) (Int32.ofNat n) = false)) (by decide)) (fun _ => ?_)
      refine Goes.runS X [(.aload_n 0, 1), (.iload_n 2, 1)] (S' := [.int (Int32.ofNat j), .ref b]) (pc' := 17) rfl ?_
      refine Goes.baload X 0 j rfl hq.1 hq.2.1 (own_mp own_by hc1) ?_
      show Goes _ _ _ _ _ _ _ _ _ _ _ _ _ _ _ _ _ _ _ _ [(b, oBs (cl.map own_by)), (g, oBs (el.map own_by))] 0 0 (mkF m 18 #[.val (.ref b), .val (.ref g), .val (.int (Int32.ofNat j))] [.int (oI2b c1)])
      refine Goes.runS X [(.aload_n 1, 1), (.iload_n 2, 1)] (S' := [.int (Int32.ofNat j), .ref g, .int (oI2b c1)]) (pc' := 20) rfl ?_
      refine Goes.baload X 1 j rfl hq.1 hq.2.1 (own_mp own_by hc2) ?_
      show Goes _ _ _ _ _ _ _ _ _ _ _ _ _ _ _ _ _ _ _ _ [(b, oBs (cl.map own_by)), (g, oBs (el.map own_by))] 0 0 (mkF m 21 #[.val (.ref b), .val (.ref g), .val (.int (Int32.ofNat j))] [.int (oI2b c2), .int (oI2b c1)])
      refine Goes.if2 X (pc' := 26) (o := 5) (cd := .eq) (fun q37 => ?_) (fun q37 => ?_)
      · have h38 : c1 = c2 := own_ibi (hid c1 hm) (gid c2 gm) (by simpa [if_icmp.holds] using q37)
        subst h38
        refine Goes.run X [(.iinc 2 1, 3)] (L' := #[.val (.ref b), .val (.ref g), .val (.int ((Int32.ofNat j) + (1 : Int32)))]) (S' := []) (pc' := 29) rfl ?_
        rw [hq.2.2]
        show Goes _ _ _ _ _ _ _ _ _ _ _ _ _ _ _ _ _ _ _ _ [(b, oBs (cl.map own_by)), (g, oBs (el.map own_by))] 0 0 (mkF m 29 #[.val (.ref b), .val (.ref g), .val (.int (Int32.ofNat (j + 1)))] [])
        refine Goes.goto X (o := (-20)) (pc' := 9) ?_
        exact ih (j + 1) (own_eq_s hc1 hc2 hq0) (by omega)
      · have h39 : ¬ c1 = c2 := fun z => by subst z; simp [if_icmp.holds] at q37
        refine Goes.runS X [(.iconst 0, 1)] (S' := [.int (0 : Int32)]) (pc' := 25) rfl ?_
        refine Goes.retI X (by simp) rfl ?_
        exact ⟨by rw [own_eq_f hc1 hc2 h39], rfl⟩
  refine Goes.run X [(.iconst 0, 1), (.istore_n 2, 1)] (L' := #[.val (.ref b), .val (.ref g), .val (.int (0 : Int32))]) (S' := []) (pc' := 9) rfl ?_
  exact lp n 0 rfl (by omega)
theorem own_eq01 (cl el : List Int32) : own_eq cl el = 0 ∨ own_eq cl el = 1 := by unfold own_eq; split <;> simp
theorem own_eqb {cl el : List Int32} {b : Int32} (h : b = if ifCond.holds .eq (own_eq cl el) = true then 0 else 1) : b = own_eq cl el := by rcases own_eq01 cl el with q | q <;> rw [q] at h ⊢ <;> rw [h] <;> decide
theorem own_neq (cl el : List Int32) : narrow .boolean (.int (own_eq cl el)) = .int (own_eq cl el) := (own_nz (own_eq01 cl el)).1
set_option maxRecDepth 65536 in
set_option maxHeartbeats 40000000 in
theorem D_seq2 (l : Launch) (Z : State) (a0 : Array Value) (h0 : Heap) (hw : ∀ d ∈ tables_1, d.before a0 Z = true) (cs : Int32) (hCS : Sta Z h0 "java/lang/String" "COMPACT_STRINGS" "Z" (.int cs)) (hcs : ¬ cs = 0) (a b t g : Addr) (hs hz gs gz : Value) (cl el : List Int32) (hid : ∀ c ∈ cl, own_id c = true) (gid : ∀ c ∈ el, own_id c = true) (n : Nat) (hn : cl.length = n) (gn : el.length = n) (hn0 : 0 < n) (hn2 : n ≤ 32) : Does l Z a0 h0 y_20 jdk_42_method_66_code 3 (some .boolean) ({ frames := 1, cells := 0, slots := 0, locals := 14 } : Room) #[.ref a, .ref t] [(a, o_String (.ref b) (.int 0) (hs) (hz)), (t, o_String (.ref g) (.int 0) (gs) (gz)), (b, oBs (cl.map own_by)), (g, oBs (el.map own_by))] (fun v F => v = some (.int (own_eq cl el)) ∧ F = [(a, o_String (.ref b) (.int 0) (hs) (hz)), (t, o_String (.ref g) (.int 0) (gs) (gz)), (b, oBs (cl.map own_by)), (g, oBs (el.map own_by))]) := by
  refine Does.mk #[.val (.ref a), .val (.ref t), .unset] (plainFor_of_name (by decide +kernel)) (fun m => by first | (simp [entryFrame, mkF, argsToLocals, Value.category]; done) | rfl) ?_
  intro p e s m args below meth c h X
  show Goes _ _ _ _ _ _ _ _ _ _ _ _ _ _ _ _ _ _ _ _ [(a, o_String (.ref b) (.int 0) (hs) (hz)), (t, o_String (.ref g) (.int 0) (gs) (gz)), (b, oBs (cl.map own_by)), (g, oBs (el.map own_by))] 0 0 (mkF m 0 #[.val (.ref a), .val (.ref t), .unset] [])
  refine Goes.runS X [(.aload_n 0, 1), (.aload_n 1, 1)] (S' := [.ref t, .ref a]) (pc' := 2) rfl ?_
  refine Goes.ne 0 1 rfl rfl (Or.inl rfl) (by decide) (fun hne => ?_)
  refine Goes.ifA X rfl rfl (pc' := 7) (o := 5) (cd := .ne) (fun _ => ?_) (fun q => absurd (q.symm.trans (by simp only [acV]; simp [hne] : acV .ne (decide (Value.ref a = Value.ref t)) = true)) (by decide))
  refine Goes.runS X [(.aload_n 1, 1)] (S' := [.ref t]) (pc' := 8) rfl ?_
  refine Goes.inst X 1 (wd hw 114 rfl) (wd hw 17 rfl) rfl ?_
  refine Goes.if1 X (pc' := 54) (o := 43) (cd := .eq) (fun q => absurd q (by decide)) (fun _ => ?_)
  refine Goes.runS X [(.aload_n 1, 1)] (S' := [.ref t]) (pc' := 15) rfl ?_
  refine Goes.castO X 1 (wd hw 114 rfl) (wd hw 17 rfl) rfl ?_
  refine Goes.run X [(.astore_n 2, 1)] (L' := #[.val (.ref a), .val (.ref t), .val (.ref t)]) (S' := []) (pc' := 19) rfl ?_
  refine Goes.getS X (wd hw 22 rfl) Via.refl hCS ?_
  refine Goes.if1 X (pc' := 36) (o := 14) (cd := .eq) (fun q => absurd (q.symm.trans (by simpa [ifCond.holds] using hcs : ifCond.holds .eq cs = false)) (by decide)) (fun _ => ?_)
  refine Goes.runS X [(.aload_n 0, 1)] (S' := [.ref a]) (pc' := 26) rfl ?_
  refine Goes.getF X 0 1 rfl rfl (wd hw 34 rfl) Via.refl ?_
  refine Goes.runS X [(.aload_n 2, 1)] (S' := [.ref t, .int (0 : Int32)]) (pc' := 30) rfl ?_
  refine Goes.getF X 1 1 rfl rfl (wd hw 34 rfl) Via.refl ?_
  refine Goes.if2 X (pc' := 54) (o := 21) (cd := .ne) (fun q => absurd q (by decide)) (fun _ => ?_)
  refine Goes.runS X [(.aload_n 0, 1)] (S' := [.ref a]) (pc' := 37) rfl ?_
  refine Goes.getF X 0 0 rfl rfl (wd hw 36 rfl) Via.refl ?_
  refine Goes.runS X [(.aload_n 2, 1)] (S' := [.ref t, .ref b]) (pc' := 41) rfl ?_
  refine Goes.getF X 1 0 rfl rfl (wd hw 36 rfl) Via.refl ?_
  refine Goes.callS X 0 [2, 3] [0, 1] (D_leq l Z a0 h0 hw b g cl el hid gid n hn gn hn0 hn2) (wd hw 115 rfl) (wd hw 116 rfl) (wd hw 76 rfl) (wd hw 117 rfl) pd_y_22 rfl (st := []) rfl rfl (G := [(a, o_String (.ref b) (.int 0) (hs) (hz)), (t, o_String (.ref g) (.int 0) (gs) (gz))]) rfl rfl ?_
  rintro _ _ ⟨rfl, rfl⟩
  refine ⟨Or.inr (Or.inr fun _ q => Or.inr (Or.inr q)), ?_⟩
  refine Goes.bool1 X (cd := .eq) (o := 7) (o2 := 4) (pc' := 54) (pc2 := 55) (by decide +kernel) (by decide +kernel) (by decide +kernel) rfl (fun r hr => ?_)
  obtain rfl := own_eqb hr
  refine Goes.sub [2, 3, 0, 1] (G := [(a, o_String (.ref b) (.int 0) (hs) (hz)), (t, o_String (.ref g) (.int 0) (gs) (gz)), (b, oBs (cl.map own_by)), (g, oBs (el.map own_by))]) rfl ?_
  refine Goes.retI X (by simp) (own_neq cl el) ?_
  exact ⟨rfl, rfl⟩
set_option maxRecDepth 65536 in
set_option maxHeartbeats 40000000 in
theorem D_aeq (l : Launch) (Z : State) (a0 : Array Value) (h0 : Heap) (hw : ∀ d ∈ tables_1, d.before a0 Z = true) (cs : Int32) (hCS : Sta Z h0 "java/lang/String" "COMPACT_STRINGS" "Z" (.int cs)) (hcs : ¬ cs = 0) (o u a b t g : Addr) (hs hz gs gz : Value) (cl el : List Int32) (hid : ∀ c ∈ cl, own_id c = true) (gid : ∀ c ∈ el, own_id c = true) (n : Nat) (hn : cl.length = n) (gn : el.length = n) (hn0 : 0 < n) (hn2 : n ≤ 32) : Does l Z a0 h0 y_21 prog_1_method_4_code 2 (some .boolean) ({ frames := 2, cells := 0, slots := 0, locals := 28 } : Room) #[.ref o, .ref u] [(o, o_Acc (.ref a)), (u, o_Acc (.ref t)), (a, o_String (.ref b) (.int 0) (hs) (hz)), (t, o_String (.ref g) (.int 0) (gs) (gz)), (b, oBs (cl.map own_by)), (g, oBs (el.map own_by))] (fun v F => v = some (.int (own_eq cl el)) ∧ F = [(o, o_Acc (.ref a)), (u, o_Acc (.ref t)), (a, o_String (.ref b) (.int 0) (hs) (hz)), (t, o_String (.ref g) (.int 0) (gs) (gz)), (b, oBs (cl.map own_by)), (g, oBs (el.map own_by))]) := by
  refine Does.mk #[.val (.ref o), .val (.ref u)] (plainFor_of_name (by decide +kernel)) (fun m => by first | (simp [entryFrame, mkF, argsToLocals, Value.category]; done) | rfl) ?_
  intro p e s m args below meth c h X
  show Goes _ _ _ _ _ _ _ _ _ _ _ _ _ _ _ _ _ _ _ _ [(o, o_Acc (.ref a)), (u, o_Acc (.ref t)), (a, o_String (.ref b) (.int 0) (hs) (hz)), (t, o_String (.ref g) (.int 0) (gs) (gz)), (b, oBs (cl.map own_by)), (g, oBs (el.map own_by))] 0 0 (mkF m 0 #[.val (.ref o), .val (.ref u)] [])
  refine Goes.runS X [(.aload_n 1, 1)] (S' := [.ref u]) (pc' := 1) rfl ?_
  refine Goes.inst X 1 (wd hw 89 rfl) (wd hw 112 rfl) rfl ?_
  refine Goes.if1 X (pc' := 28) (o := 24) (cd := .eq) (fun q => absurd q (by decide)) (fun _ => ?_)
  refine Goes.runS X [(.aload_n 0, 1)] (S' := [.ref o]) (pc' := 8) rfl ?_
  refine Goes.getF X 0 0 rfl rfl (wd hw 95 rfl) Via.refl ?_
  refine Goes.runS X [(.aload_n 1, 1)] (S' := [.ref u, .ref a]) (pc' := 12) rfl ?_
  refine Goes.castO X 1 (wd hw 89 rfl) (wd hw 112 rfl) rfl ?_
  refine Goes.getF X 1 0 rfl rfl (wd hw 95 rfl) Via.refl ?_
  refine Goes.callV X 0 2 [2, 3, 4, 5] [0, 1] rfl (D_seq2 l Z a0 h0 hw cs hCS hcs a b t g hs hz gs gz cl el hid gid n hn gn hn0 hn2) (wd hw 113 rfl) (wd hw 103 rfl) (wd hw 105 rfl) (wd hw 104 rfl) (own_nf X (wd hw 105 rfl)) (wd hw 7 rfl) (wd hw 106 rfl) pd_y_20 rfl (st := []) rfl rfl (G := [(o, o_Acc (.ref a)), (u, o_Acc (.ref t))]) rfl rfl ?_
  rintro _ _ ⟨rfl, rfl⟩
  refine ⟨Or.inr (Or.inr fun _ q => Or.inr (Or.inr q)), ?_⟩
  refine Goes.bool1 X (cd := .eq) (o := 7) (o2 := 4) (pc' := 28) (pc2 := 29) (by decide +kernel) (by decide +kernel) (by decide +kernel) rfl (fun r hr => ?_)
  obtain rfl := own_eqb hr
  refine Goes.sub [4, 5, 0, 1, 2, 3] (G := [(o, o_Acc (.ref a)), (u, o_Acc (.ref t)), (a, o_String (.ref b) (.int 0) (hs) (hz)), (t, o_String (.ref g) (.int 0) (gs) (gz)), (b, oBs (cl.map own_by)), (g, oBs (el.map own_by))]) rfl ?_
  refine Goes.retI X (by simp) (own_neq cl el) ?_
  exact ⟨rfl, rfl⟩
def own_h (cl : List Int32) (j : Nat) : Int32 := (cl.take j).foldl (fun r c => 31 * r + (oI2b c &&& 255)) 0
theorem own_h_s {cl : List Int32} {j : Nat} {c : Int32} (h : cl[j]? = some c) : 31 * own_h cl j + (oI2b c &&& 255) = own_h cl (j + 1) := by rw [own_h, own_h, List.take_add_one, h]; simp [List.foldl_append]
set_option maxRecDepth 65536 in
set_option maxHeartbeats 40000000 in
theorem D_sgh (l : Launch) (Z : State) (a0 : Array Value) (h0 : Heap) (hw : ∀ d ∈ tables_1, d.before a0 Z = true) (b : Addr) (cl : List Int32) (hid : ∀ c ∈ cl, own_id c = true) (n : Nat) (hn : cl.length = n) (hn0 : 0 < n) (hn2 : n ≤ 32) : Does l Z a0 h0 y_27 jdk_48_method_5_code 6 (some .int) ({ frames := 0, cells := 0, slots := 0, locals := 0 } : Room) #[.int 0, .ref b, .int 0, .int (Int32.ofNat n)] [(b, oBs (cl.map own_by))] (fun v F => v = some (.int (own_h cl n)) ∧ F = [(b, oBs (cl.map own_by))]) := by
  refine Does.mk #[.val (.int 0), .val (.ref b), .val (.int 0), .val (.int (Int32.ofNat n)), .unset, .unset] (plainFor_of_name (by decide +kernel)) (fun m => by first | (simp [entryFrame, mkF, argsToLocals, Value.category]; done) | rfl) ?_
  intro p e s m args below meth c h X
  show Goes _ _ _ _ _ _ _ _ _ _ _ _ _ _ _ _ _ _ _ _ [(b, oBs (cl.map own_by))] 0 0 (mkF m 0 #[.val (.int 0), .val (.ref b), .val (.int 0), .val (.int (Int32.ofNat n)), .unset, .unset] [])
  have lp : ∀ (k j : Nat) , j + k = n → Goes p l e ({ frames := 0, cells := 0, slots := 0, locals := 0 } : Room) s m args below meth c Z a0 none s h0 h [(b, oBs (cl.map own_by))] ({ frames := 0, cells := 0, slots := 0, locals := 0 } : Room).cells ({ frames := 0, cells := 0, slots := 0, locals := 0 } : Room).slots (fun v F => v = some (.int (own_h cl n)) ∧ F = [(b, oBs (cl.map own_by))]) [(b, oBs (cl.map own_by))] 0 0 (mkF m 8 #[.val (.int (own_h cl j)), .val (.ref b), .val (.int 0), .val (.int (Int32.ofNat n)), .val (.int (Int32.ofNat n)), .val (.int (Int32.ofNat j))] []) := by
    intro k
    induction k with
    | zero =>
      intro j  hj
      obtain rfl : n = j := by omega
      refine Goes.runS X [(.iload 5, 2), (.iload 4, 2)] (S' := [.int (Int32.ofNat n), .int (Int32.ofNat n)]) (pc' := 12) rfl ?_
      refine Goes.if2 X (pc' := 35) (o := 23) (cd := .ge) (fun _ => ?_) (fun q => absurd (q.symm.trans (by rw [own_ge _ hn2 _ hn2]; simp : if_icmp.holds .ge (Int32.ofNat n) (Int32.ofNat n) = true)) (by decide))
      refine Goes.runS X [(.iload_n 0, 1)] (S' := [.int (own_h cl n)]) (pc' := 36) rfl ?_
      refine Goes.retI X (by simp) rfl ?_
      exact ⟨rfl, rfl⟩
    | succ k ih =>
      intro j  hj
      have hlt : j < n := by omega
      obtain ⟨c1, hc1, hm⟩ := own_at cl j n hn hlt
      have hq := own_jn j (by omega)
      refine Goes.runS X [(.iload 5, 2), (.iload 4, 2)] (S' := [.int (Int32.ofNat n), .int (Int32.ofNat j)]) (pc' := 12) rfl ?_
      refine Goes.if2 X (pc' := 35) (o := 23) (cd := .ge) (fun q => absurd (q.symm.trans (by rw [own_ge j (by omega) n hn2]; simp; omega : if_icmp.holds .ge (Int32.ofNat j) (Int32.ofNat n) = false)) (by decide)) (fun _ => ?_)
      refine Goes.runS X [(.bipush 31, 2), (.iload_n 0, 1), (.imul, 1), (.aload_n 1, 1), (.iload 5, 2)] (S' := [.int (Int32.ofNat j), .ref b, .int ((31 : Int32) * (own_h cl j))]) (pc' := 22) rfl ?_
      refine Goes.baload X 0 j rfl hq.1 hq.2.1 (own_mp own_by hc1) ?_
      show Goes _ _ _ _ _ _ _ _ _ _ _ _ _ _ _ _ _ _ _ _ [(b, oBs (cl.map own_by))] 0 0 (mkF m 23 #[.val (.int (own_h cl j)), .val (.ref b), .val (.int 0), .val (.int (Int32.ofNat n)), .val (.int (Int32.ofNat n)), .val (.int (Int32.ofNat j))] [.int (oI2b c1), .int ((31 : Int32) * (own_h cl j))])
      refine Goes.run X [(.sipush 255, 3), (.iand, 1), (.iadd, 1), (.istore_n 0, 1), (.iinc 5 1, 3)] (L' := #[.val (.int (((31 : Int32) * (own_h cl j)) + ((oI2b c1) &&& (255 : Int32)))), .val (.ref b), .val (.int 0), .val (.int (Int32.ofNat n)), .val (.int (Int32.ofNat n)), .val (.int ((Int32.ofNat j) + (1 : Int32)))]) (S' := []) (pc' := 32) rfl ?_
      rw [hq.2.2, own_h_s hc1]
      show Goes _ _ _ _ _ _ _ _ _ _ _ _ _ _ _ _ _ _ _ _ [(b, oBs (cl.map own_by))] 0 0 (mkF m 32 #[.val (.int (own_h cl (j + 1))), .val (.ref b), .val (.int 0), .val (.int (Int32.ofNat n)), .val (.int (Int32.ofNat n)), .val (.int (Int32.ofNat (j + 1)))] [])
      refine Goes.goto X (o := (-24)) (pc' := 8) ?_
      exact ih (j + 1) (by omega)
  refine Goes.runS X [(.iload_n 2, 1), (.iload_n 3, 1), (.iadd, 1)] (S' := [.int (0 + (Int32.ofNat n))]) (pc' := 3) rfl ?_
  rw [Int32.zero_add]
  show Goes _ _ _ _ _ _ _ _ _ _ _ _ _ _ _ _ _ _ _ _ [(b, oBs (cl.map own_by))] 0 0 (mkF m 3 #[.val (.int 0), .val (.ref b), .val (.int 0), .val (.int (Int32.ofNat n)), .unset, .unset] [.int (Int32.ofNat n)])
  refine Goes.run X [(.istore 4, 2), (.iload_n 2, 1), (.istore 5, 2)] (L' := #[.val (.int 0), .val (.ref b), .val (.int 0), .val (.int (Int32.ofNat n)), .val (.int (Int32.ofNat n)), .val (.int 0)]) (S' := []) (pc' := 8) rfl ?_
  exact lp n 0 (by omega)
set_option maxRecDepth 65536 in
set_option maxHeartbeats 40000000 in
theorem D_vhc (l : Launch) (Z : State) (a0 : Array Value) (h0 : Heap) (hw : ∀ d ∈ tables_1, d.before a0 Z = true) (b : Addr) (cl : List Int32) (hid : ∀ c ∈ cl, own_id c = true) (n : Nat) (hn : cl.length = n) (hn0 : 0 < n) (hn2 : n ≤ 32) : Does l Z a0 h0 y_26 jdk_48_method_4_code 5 (some .int) ({ frames := 1, cells := 0, slots := 0, locals := 17 } : Room) #[.ref b, .int 0, .int (Int32.ofNat n), .int 0, .int (4 : Int32)] [(b, oBs (cl.map own_by))] (fun v F => v = some (.int (own_h cl n)) ∧ F = [(b, oBs (cl.map own_by))]) := by
  refine Does.mk #[.val (.ref b), .val (.int 0), .val (.int (Int32.ofNat n)), .val (.int 0), .val (.int (4 : Int32))] (plainFor_of_name (by decide +kernel)) (fun m => by first | (simp [entryFrame, mkF, argsToLocals, Value.category]; done) | rfl) ?_
  intro p e s m args below meth c h X
  show Goes _ _ _ _ _ _ _ _ _ _ _ _ _ _ _ _ _ _ _ _ [(b, oBs (cl.map own_by))] 0 0 (mkF m 0 #[.val (.ref b), .val (.int 0), .val (.int (Int32.ofNat n)), .val (.int 0), .val (.int (4 : Int32))] [])
  refine Goes.runS X [(.iload 4, 2)] (S' := [.int (4 : Int32)]) (pc' := 2) rfl ?_
  refine Goes.tsw X (o := 42) (pc' := 44) (len := 42) (dflt := 127) (low := 4) (high := 10) (offs := #[42, 55, 127, 127, 88, 101, 114]) (by decide) (by decide) ?_
  show Goes _ _ _ _ _ _ _ _ _ _ _ _ _ _ _ _ _ _ _ _ [(b, oBs (cl.map own_by))] 0 0 (mkF m 44 #[.val (.ref b), .val (.int 0), .val (.int (Int32.ofNat n)), .val (.int 0), .val (.int (4 : Int32))] [])
  refine Goes.runS X [(.iload_n 3, 1), (.aload_n 0, 1)] (S' := [.ref b, .int 0]) (pc' := 46) rfl ?_
  refine Goes.castA X 0 (wd hw 139 rfl) (wd hw 140 rfl) rfl ?_
  refine Goes.runS X [(.iload_n 1, 1), (.iload_n 2, 1)] (S' := [.int (Int32.ofNat n), .int 0, .ref b, .int 0]) (pc' := 51) rfl ?_
  refine Goes.callS X 0 [0] [] (D_sgh l Z a0 h0 hw b cl hid n hn hn0 hn2) (wd hw 141 rfl) (wd hw 142 rfl) (wd hw 137 rfl) (wd hw 143 rfl) pd_y_27 rfl (st := []) rfl rfl (G := []) rfl rfl ?_
  rintro _ _ ⟨rfl, rfl⟩
  refine ⟨Or.inr (Or.inr fun _ q => Or.inr (Or.inr q)), ?_⟩
  refine Goes.goto X (o := 103) (pc' := 157) ?_
  refine Goes.retI X (by simp) rfl ?_
  exact ⟨rfl, rfl⟩
theorem own_l1 : ∀ n : Nat, n ≤ 32 → 1 < n → (#[((0 : Int), (26 : Int)), (1, 30)] : Array (Int × Int)).find? (·.1 == (Int32.ofNat n).toInt) = none := by decide +kernel
theorem own_h1 {cl : List Int32} {c : Int32} (h : cl[0]? = some c) : own_h cl 1 = (oI2b c &&& 255) := by rw [← own_h_s h]; simp [own_h]
set_option maxRecDepth 65536 in
set_option maxHeartbeats 40000000 in
theorem D_lhc (l : Launch) (Z : State) (a0 : Array Value) (h0 : Heap) (hw : ∀ d ∈ tables_1, d.before a0 Z = true) (b : Addr) (cl : List Int32) (hid : ∀ c ∈ cl, own_id c = true) (n : Nat) (hn : cl.length = n) (hn0 : 0 < n) (hn2 : n ≤ 32) : Does l Z a0 h0 y_25 jdk_43_method_21_code 1 (some .int) ({ frames := 2, cells := 0, slots := 0, locals := 33 } : Room) #[.ref b] [(b, oBs (cl.map own_by))] (fun v F => v = some (.int (own_h cl n)) ∧ F = [(b, oBs (cl.map own_by))]) := by
  refine Does.mk #[.val (.ref b)] (plainFor_of_name (by decide +kernel)) (fun m => by first | (simp [entryFrame, mkF, argsToLocals, Value.category]; done) | rfl) ?_
  intro p e s m args below meth c h X
  show Goes _ _ _ _ _ _ _ _ _ _ _ _ _ _ _ _ _ _ _ _ [(b, oBs (cl.map own_by))] 0 0 (mkF m 0 #[.val (.ref b)] [])
  refine Goes.runS X [(.aload_n 0, 1)] (S' := [.ref b]) (pc' := 1) rfl ?_
  refine Goes.alen X 0 (n := Int32.ofNat n) rfl (own_len _ cl n hn) ?_
  show Goes _ _ _ _ _ _ _ _ _ _ _ _ _ _ _ _ _ _ _ _ [(b, oBs (cl.map own_by))] 0 0 (mkF m 2 #[.val (.ref b)] [.int (Int32.ofNat n)])
  by_cases h1 : n = 1
  · subst h1
    obtain ⟨c1, hc1, hm⟩ := own_at cl 0 1 hn (by decide)
    refine Goes.lswH X (dflt := 40) (prs := #[(0, 26), (1, 30)]) (len := 26) (v := 1) (o := 30) (pc' := 32) (by decide) (by decide) ?_
    refine Goes.runS X [(.aload_n 0, 1), (.iconst 0, 1)] (S' := [.int (0 : Int32), .ref b]) (pc' := 34) rfl ?_
    refine Goes.baload X 0 0 rfl (by decide) (by decide) (own_mp own_by hc1) ?_
    refine Goes.runS X [(.sipush 255, 3), (.iand, 1)] (S' := [.int ((oI2b c1) &&& (255 : Int32))]) (pc' := 39) rfl ?_
    refine Goes.goto X (o := 12) (pc' := 51) ?_
    refine Goes.retI X (by simp) rfl ?_
    exact ⟨by rw [own_h1 hc1], rfl⟩
  · refine Goes.lswM X (dflt := 40) (prs := #[(0, 26), (1, 30)]) (len := 26) (pc' := 42) (by decide) (own_l1 n hn2 (by omega)) ?_
    refine Goes.runS X [(.aload_n 0, 1), (.iconst 0, 1), (.aload_n 0, 1)] (S' := [.ref b, .int (0 : Int32), .ref b]) (pc' := 45) rfl ?_
    refine Goes.alen X 0 (n := Int32.ofNat n) rfl (own_len _ cl n hn) ?_
    show Goes _ _ _ _ _ _ _ _ _ _ _ _ _ _ _ _ _ _ _ _ [(b, oBs (cl.map own_by))] 0 0 (mkF m 46 #[.val (.ref b)] [.int (Int32.ofNat n), .int (0 : Int32), .ref b])
    refine Goes.runS X [(.iconst 0, 1), (.iconst 4, 1)] (S' := [.int (4 : Int32), .int (0 : Int32), .int (Int32.ofNat n), .int (0 : Int32), .ref b]) (pc' := 48) rfl ?_
    refine Goes.callS X 0 [0] [] (D_vhc l Z a0 h0 hw b cl hid n hn hn0 hn2) (wd hw 135 rfl) (wd hw 136 rfl) (wd hw 137 rfl) (wd hw 138 rfl) pd_y_26 rfl (st := []) rfl rfl (G := []) rfl rfl ?_
    rintro _ _ ⟨rfl, rfl⟩
    refine ⟨Or.inr (Or.inr fun _ q => Or.inr (Or.inr q)), ?_⟩
    refine Goes.retI X (by simp) rfl ?_
    exact ⟨rfl, rfl⟩
theorem pf_3 : parseFieldDescriptor "I" = some .int := by decide +kernel
theorem pf_4 : parseFieldDescriptor "Z" = some .boolean := by decide +kernel
set_option maxRecDepth 65536 in
set_option maxHeartbeats 40000000 in
theorem D_shc (l : Launch) (Z : State) (a0 : Array Value) (h0 : Heap) (hw : ∀ d ∈ tables_1, d.before a0 Z = true) (cs : Int32) (hCS : Sta Z h0 "java/lang/String" "COMPACT_STRINGS" "Z" (.int cs)) (hcs : ¬ cs = 0) (a b : Addr) (cl : List Int32) (hid : ∀ c ∈ cl, own_id c = true) (n : Nat) (hn : cl.length = n) (hn0 : 0 < n) (hn2 : n ≤ 32) : Does l Z a0 h0 y_24 jdk_42_method_78_code 2 (some .int) ({ frames := 3, cells := 0, slots := 0, locals := 45 } : Room) #[.ref a] [(a, o_String (.ref b) (.int 0) (.int 0) (.int 0)), (b, oBs (cl.map own_by))] (fun v F => ∃ hs hz, v = some (.int (own_h cl n)) ∧ F = [(a, o_String (.ref b) (.int 0) (hs) (hz)), (b, oBs (cl.map own_by))]) := by
  refine Does.mk #[.val (.ref a), .unset] (plainFor_of_name (by decide +kernel)) (fun m => by first | (simp [entryFrame, mkF, argsToLocals, Value.category]; done) | rfl) ?_
  intro p e s m args below meth c h X
  show Goes _ _ _ _ _ _ _ _ _ _ _ _ _ _ _ _ _ _ _ _ [(a, o_String (.ref b) (.int 0) (.int 0) (.int 0)), (b, oBs (cl.map own_by))] 0 0 (mkF m 0 #[.val (.ref a), .unset] [])
  refine Goes.runS X [(.aload_n 0, 1)] (S' := [.ref a]) (pc' := 1) rfl ?_
  refine Goes.getF X 0 2 rfl rfl (wd hw 128 rfl) Via.refl ?_
  refine Goes.run X [(.istore_n 1, 1), (.iload_n 1, 1)] (L' := #[.val (.ref a), .val (.int (0 : Int32))]) (S' := [.int (0 : Int32)]) (pc' := 6) rfl ?_
  refine Goes.if1 X (pc' := 58) (o := 52) (cd := .ne) (fun q => absurd q (by decide)) (fun _ => ?_)
  refine Goes.runS X [(.aload_n 0, 1)] (S' := [.ref a]) (pc' := 10) rfl ?_
  refine Goes.getF X 0 3 rfl rfl (wd hw 130 rfl) Via.refl ?_
  refine Goes.if1 X (pc' := 58) (o := 45) (cd := .ne) (fun q => absurd q (by decide)) (fun _ => ?_)
  refine Goes.runS X [(.aload_n 0, 1)] (S' := [.ref a]) (pc' := 17) rfl ?_
  refine Goes.callV X 0 0 [0] [1] rfl (D_sisl l Z a0 h0 hw cs hCS hcs a 0 (.ref b) (.int 0) (.int 0)) (wd hw 69 rfl) (wd hw 70 rfl) (wd hw 72 rfl) (wd hw 71 rfl) (own_nf X (wd hw 72 rfl)) (wd hw 7 rfl) (wd hw 73 rfl) pd_y_13 rfl (st := []) rfl rfl (G := [(b, oBs (cl.map own_by))]) rfl rfl ?_
  rintro _ _ ⟨rfl, rfl⟩
  refine ⟨Or.inr (Or.inr fun _ q => Or.inr (Or.inr q)), ?_⟩
  refine Goes.if1 X (pc' := 33) (o := 13) (cd := .eq) (fun q => absurd q (by decide)) (fun _ => ?_)
  refine Goes.runS X [(.aload_n 0, 1)] (S' := [.ref a]) (pc' := 24) rfl ?_
  refine Goes.getF X 0 0 rfl rfl (wd hw 36 rfl) Via.refl ?_
  refine Goes.callS X 0 [1] [0] (D_lhc l Z a0 h0 hw b cl hid n hn hn0 hn2) (wd hw 132 rfl) (wd hw 133 rfl) (wd hw 76 rfl) (wd hw 134 rfl) pd_y_25 rfl (st := []) rfl rfl (G := [(a, o_String (.ref b) (.int 0) (.int 0) (.int 0))]) rfl rfl ?_
  rintro _ _ ⟨rfl, rfl⟩
  refine ⟨Or.inr (Or.inr fun _ q => Or.inr (Or.inr q)), ?_⟩
  refine Goes.goto X (o := 10) (pc' := 40) ?_
  refine Goes.run X [(.istore_n 1, 1), (.iload_n 1, 1)] (L' := #[.val (.ref a), .val (.int (own_h cl n))]) (S' := [.int (own_h cl n)]) (pc' := 42) rfl ?_
  refine Goes.if1 X (pc' := 53) (o := 11) (cd := .ne) (fun q40 => ?_) (fun q40 => ?_)
  · refine Goes.runS X [(.aload_n 0, 1), (.iload_n 1, 1)] (S' := [.int (own_h cl n), .ref a]) (pc' := 55) rfl ?_
    refine Goes.putF X 1 2 rfl rfl (wd hw 128 rfl) Via.refl (Or.inl (wd hw 129 rfl)) (wd hw 6 rfl) (own_hn rfl rfl nd_String) (ty := .int) pf_3 rfl rfl ?_
    refine Goes.runS X [(.iload_n 1, 1)] (S' := [.int (own_h cl n)]) (pc' := 59) rfl ?_
    refine Goes.sub [1, 0] (G := [(a, o_String (.ref b) (.int 0) (.int (own_h cl n)) (.int 0)), (b, oBs (cl.map own_by))]) rfl ?_
    refine Goes.retI X (by simp) rfl ?_
    exact ⟨_, _, rfl, rfl⟩
  · refine Goes.runS X [(.aload_n 0, 1), (.iconst 1, 1)] (S' := [.int (1 : Int32), .ref a]) (pc' := 47) rfl ?_
    refine Goes.putF X 1 3 rfl rfl (wd hw 130 rfl) Via.refl (Or.inl (wd hw 131 rfl)) (wd hw 6 rfl) (own_hn rfl rfl nd_String) (ty := .boolean) pf_4 rfl rfl ?_
    refine Goes.goto X (o := 8) (pc' := 58) ?_
    refine Goes.runS X [(.iload_n 1, 1)] (S' := [.int (own_h cl n)]) (pc' := 59) rfl ?_
    refine Goes.sub [1, 0] (G := [(a, o_String (.ref b) (.int 0) (.int 0) (.int (1 : Int32))), (b, oBs (cl.map own_by))]) rfl ?_
    refine Goes.retI X (by simp) rfl ?_
    exact ⟨_, _, rfl, rfl⟩
set_option maxRecDepth 65536 in
set_option maxHeartbeats 40000000 in
theorem D_ahc (l : Launch) (Z : State) (a0 : Array Value) (h0 : Heap) (hw : ∀ d ∈ tables_1, d.before a0 Z = true) (cs : Int32) (hCS : Sta Z h0 "java/lang/String" "COMPACT_STRINGS" "Z" (.int cs)) (hcs : ¬ cs = 0) (o a b : Addr) (cl : List Int32) (hid : ∀ c ∈ cl, own_id c = true) (n : Nat) (hn : cl.length = n) (hn0 : 0 < n) (hn2 : n ≤ 32) : Does l Z a0 h0 y_23 prog_1_method_5_code 1 (some .int) ({ frames := 4, cells := 0, slots := 0, locals := 58 } : Room) #[.ref o] [(o, o_Acc (.ref a)), (a, o_String (.ref b) (.int 0) (.int 0) (.int 0)), (b, oBs (cl.map own_by))] (fun v F => ∃ hs hz, v = some (.int (own_h cl n)) ∧ F = [(o, o_Acc (.ref a)), (a, o_String (.ref b) (.int 0) (hs) (hz)), (b, oBs (cl.map own_by))]) := by
  refine Does.mk #[.val (.ref o)] (plainFor_of_name (by decide +kernel)) (fun m => by first | (simp [entryFrame, mkF, argsToLocals, Value.category]; done) | rfl) ?_
  intro p e s m args below meth c h X
  show Goes _ _ _ _ _ _ _ _ _ _ _ _ _ _ _ _ _ _ _ _ [(o, o_Acc (.ref a)), (a, o_String (.ref b) (.int 0) (.int 0) (.int 0)), (b, oBs (cl.map own_by))] 0 0 (mkF m 0 #[.val (.ref o)] [])
  refine Goes.runS X [(.aload_n 0, 1)] (S' := [.ref o]) (pc' := 1) rfl ?_
  refine Goes.getF X 0 0 rfl rfl (wd hw 95 rfl) Via.refl ?_
  refine Goes.callV X 0 1 [1, 2] [0] rfl (D_shc l Z a0 h0 hw cs hCS hcs a b cl hid n hn hn0 hn2) (wd hw 123 rfl) (wd hw 124 rfl) (wd hw 126 rfl) (wd hw 125 rfl) (own_nf X (wd hw 126 rfl)) (wd hw 7 rfl) (wd hw 127 rfl) pd_y_24 rfl (st := []) rfl rfl (G := [(o, o_Acc (.ref a))]) rfl rfl ?_
  rintro _ _ ⟨x41, z42, rfl, rfl⟩
  refine ⟨Or.inl rfl, ?_⟩
  refine Goes.sub [2, 0, 1] (G := [(o, o_Acc (.ref a)), (a, o_String (.ref b) (.int 0) (x41) (z42)), (b, oBs (cl.map own_by))]) rfl ?_
  refine Goes.retI X (by simp) rfl ?_
  exact ⟨_, _, rfl, rfl⟩
theorem own_case5 (r : Int32) (h0 : 0 ≤ r.toInt) (h1 : r.toInt < (5 : Int32).toInt) : r = 0 ∨ r = 1 ∨ r = 2 ∨ r = 3 ∨ r = 4 := by
  have h1' : r.toInt < 5 := h1
  have : r.toInt = 0 ∨ r.toInt = 1 ∨ r.toInt = 2 ∨ r.toInt = 3 ∨ r.toInt = 4 := by omega
  rcases this with h | h | h | h | h <;> simp [← Int32.toInt_inj, h]
set_option maxRecDepth 65536 in
set_option maxHeartbeats 40000000 in
theorem D_law (l : Launch) (Z : State) (a0 : Array Value) (h0 : Heap) (hw : ∀ d ∈ tables_1, d.before a0 Z = true) (cs : Int32) (hCS : Sta Z h0 "java/lang/String" "COMPACT_STRINGS" "Z" (.int cs)) (hcs : ¬ cs = 0) (sio : Value) (hSIO : Sta Z h0 "jdk/internal/util/Preconditions" "SIOOBE_FORMATTER" "Ljava/util/function/BiFunction;" sio) (hsio : sio.category = 1) (p0 p1 p2 p3 p4 p5 : Int32) : DoesW l Z a0 own_EL h0 x code maxLocals ret room_1 #[.int p0, .int p1, .int p2, .int p3, .int p4, .int p5] [] (fun v F => v = some (.int 1)) := by
  refine DoesW.mk #[.val (.int p0), .val (.int p1), .val (.int p2), .val (.int p3), .val (.int p4), .val (.int p5), .unset, .unset, .unset, .unset, .unset, .unset, .unset, .unset, .unset, .unset, .unset, .unset, .unset, .unset, .unset] (plainFor_of_name (by decide +kernel)) (fun m => by first | (simp [entryFrame, mkF, argsToLocals, Value.category, maxLocals]; done) | rfl) ?_
  intro p e s0 vmS vm0 k0 m args below meth c h X
  rcases own_case5 _ (own_rem p5 5 (by decide)).1 (own_rem p5 5 (by decide)).2 with e0 | e1 | e2 | e3 | e4
  · refine Goes.runS X [(.iload_n 0, 1)] (S' := [.int p0]) (pc' := 1) rfl ?_
    refine Goes.callS X 0 [] [] (D_ch l Z a0 h0 hw p0) (wd hw 0 rfl) (wd hw 1 rfl) (wd hw 2 rfl) (wd hw 3 rfl) pd_y_0 rfl (st := []) rfl rfl (G := []) rfl rfl ?_
    rintro _ _ ⟨c43, rfl, hc43, rfl⟩
    refine ⟨Or.inr (Or.inr fun _ q => Or.inr (Or.inr q)), ?_⟩
    refine Goes.run X [(.istore 6, 2), (.iload_n 1, 1)] (L' := #[.val (.int p0), .val (.int p1), .val (.int p2), .val (.int p3), .val (.int p4), .val (.int p5), .val (.int c43), .unset, .unset, .unset, .unset, .unset, .unset, .unset, .unset, .unset, .unset, .unset, .unset, .unset, .unset]) (S' := [.int p1]) (pc' := 7) rfl ?_
    refine Goes.callS X 0 [] [] (D_ch l Z a0 h0 hw p1) (wd hw 0 rfl) (wd hw 1 rfl) (wd hw 2 rfl) (wd hw 3 rfl) pd_y_0 rfl (st := []) rfl rfl (G := []) rfl rfl ?_
    rintro _ _ ⟨c44, rfl, hc44, rfl⟩
    refine ⟨Or.inr (Or.inr fun _ q => Or.inr (Or.inr q)), ?_⟩
    refine Goes.run X [(.istore 7, 2), (.iload_n 2, 1)] (L' := #[.val (.int p0), .val (.int p1), .val (.int p2), .val (.int p3), .val (.int p4), .val (.int p5), .val (.int c43), .val (.int c44), .unset, .unset, .unset, .unset, .unset, .unset, .unset, .unset, .unset, .unset, .unset, .unset, .unset]) (S' := [.int p2]) (pc' := 13) rfl ?_
    refine Goes.callS X 0 [] [] (D_ch l Z a0 h0 hw p2) (wd hw 0 rfl) (wd hw 1 rfl) (wd hw 2 rfl) (wd hw 3 rfl) pd_y_0 rfl (st := []) rfl rfl (G := []) rfl rfl ?_
    rintro _ _ ⟨c45, rfl, hc45, rfl⟩
    refine ⟨Or.inr (Or.inr fun _ q => Or.inr (Or.inr q)), ?_⟩
    refine Goes.run X [(.istore 8, 2), (.iload_n 3, 1)] (L' := #[.val (.int p0), .val (.int p1), .val (.int p2), .val (.int p3), .val (.int p4), .val (.int p5), .val (.int c43), .val (.int c44), .val (.int c45), .unset, .unset, .unset, .unset, .unset, .unset, .unset, .unset, .unset, .unset, .unset, .unset]) (S' := [.int p3]) (pc' := 19) rfl ?_
    refine Goes.callS X 0 [] [] (D_ch l Z a0 h0 hw p3) (wd hw 0 rfl) (wd hw 1 rfl) (wd hw 2 rfl) (wd hw 3 rfl) pd_y_0 rfl (st := []) rfl rfl (G := []) rfl rfl ?_
    rintro _ _ ⟨c46, rfl, hc46, rfl⟩
    refine ⟨Or.inr (Or.inr fun _ q => Or.inr (Or.inr q)), ?_⟩
    refine Goes.run X [(.istore 9, 2), (.iload 4, 2)] (L' := #[.val (.int p0), .val (.int p1), .val (.int p2), .val (.int p3), .val (.int p4), .val (.int p5), .val (.int c43), .val (.int c44), .val (.int c45), .val (.int c46), .unset, .unset, .unset, .unset, .unset, .unset, .unset, .unset, .unset, .unset, .unset]) (S' := [.int p4]) (pc' := 26) rfl ?_
    refine Goes.callS X 0 [] [] (D_ch l Z a0 h0 hw p4) (wd hw 0 rfl) (wd hw 1 rfl) (wd hw 2 rfl) (wd hw 3 rfl) pd_y_0 rfl (st := []) rfl rfl (G := []) rfl rfl ?_
    rintro _ _ ⟨c47, rfl, hc47, rfl⟩
    refine ⟨Or.inr (Or.inr fun _ q => Or.inr (Or.inr q)), ?_⟩
    refine Goes.run X [(.istore 10, 2), (.iload 5, 2)] (L' := #[.val (.int p0), .val (.int p1), .val (.int p2), .val (.int p3), .val (.int p4), .val (.int p5), .val (.int c43), .val (.int c44), .val (.int c45), .val (.int c46), .val (.int c47), .unset, .unset, .unset, .unset, .unset, .unset, .unset, .unset, .unset, .unset]) (S' := [.int p5]) (pc' := 33) rfl ?_
    refine Goes.ldcI X (wd hw 4 rfl) ?_
    refine Goes.runS X [(.iand, 1), (.iconst 5, 1), (.irem, 1)] (S' := [.int ((p5 &&& (2147483647 : Int32)) % (5 : Int32))]) (pc' := 38) rfl ?_
    rw [e0]
    show Goes _ _ _ _ _ _ _ _ _ _ _ _ _ _ _ _ _ _ _ _ [] 0 0 (mkF m 38 #[.val (.int p0), .val (.int p1), .val (.int p2), .val (.int p3), .val (.int p4), .val (.int p5), .val (.int c43), .val (.int c44), .val (.int c45), .val (.int c46), .val (.int c47), .unset, .unset, .unset, .unset, .unset, .unset, .unset, .unset, .unset, .unset] [.int (0 : Int32)])
    refine Goes.run X [(.istore 11, 2)] (L' := #[.val (.int p0), .val (.int p1), .val (.int p2), .val (.int p3), .val (.int p4), .val (.int p5), .val (.int c43), .val (.int c44), .val (.int c45), .val (.int c46), .val (.int c47), .val (.int (0 : Int32)), .unset, .unset, .unset, .unset, .unset, .unset, .unset, .unset, .unset]) (S' := []) (pc' := 40) rfl ?_
    have id1 : ∀ c ∈ ([c43] : List Int32), own_id c = true := by intro c hc; cases List.mem_singleton.mp hc; assumption
    have id2 : ∀ c ∈ ([c47] : List Int32), own_id c = true := by intro c hc; cases List.mem_singleton.mp hc; assumption
    obtain ⟨L1, hL1⟩ : ∃ z, [c43] = z := ⟨_, rfl⟩
    obtain ⟨L2, hL2⟩ : ∃ z, [c47] = z := ⟨_, rfl⟩
    rw [hL1] at id1
    rw [hL2] at id2
    have n1 : L1.length = 1 := by rw [← hL1]; rfl
    have n2 : L2.length = 1 := by rw [← hL2]; rfl
    have heq : own_eq L1 L2 = own_eq [c43] [c47] := by rw [← hL1, ← hL2]
    refine Goes.new X _ (wd hw 5 rfl) (wd hw 6 rfl) (wd hw 7 rfl) (new_String hw) (fun a48 => ?_)
    refine Goes.runS X [(.dup, 1), (.iload 11, 2), (.iload 6, 2), (.iload 7, 2), (.iload 8, 2), (.iload 9, 2)] (S' := [.int c46, .int c45, .int c44, .int c43, .int (0 : Int32), .ref a48, .ref a48]) (pc' := 54) rfl ?_
    refine Goes.callS X 2 [] [0] (D_mk0 l Z a0 h0 hw c43 hc43 c44 hc44 c45 hc45 c46 hc46) (wd hw 8 rfl) (wd hw 9 rfl) (wd hw 2 rfl) (wd hw 10 rfl) pd_y_1 rfl (st := [.ref a48, .ref a48]) rfl rfl (G := [(a48, o_String .null (.int 0) (.int 0) (.int 0))]) rfl rfl ?_
    rintro _ _ ⟨b49, rfl, rfl⟩
    refine ⟨Or.inl rfl, ?_⟩
    rw [hL1]
    show Goes _ _ _ _ _ _ _ _ _ _ _ _ _ _ _ _ _ _ _ _ [(b49, oCs L1), (a48, o_String .null (.int 0) (.int 0) (.int 0))] 2 5 (mkF m 57 #[.val (.int p0), .val (.int p1), .val (.int p2), .val (.int p3), .val (.int p4), .val (.int p5), .val (.int c43), .val (.int c44), .val (.int c45), .val (.int c46), .val (.int c47), .val (.int (0 : Int32)), .unset, .unset, .unset, .unset, .unset, .unset, .unset, .unset, .unset] [.ref b49, .ref a48, .ref a48])
    refine Goes.callN X 1 [1, 0] [] (D_sc l Z a0 h0 hw cs hCS hcs a48 b49 L1 id1 1 n1 (by decide) (by decide)) rfl (wd hw 12 rfl) (wd hw 13 rfl) (wd hw 7 rfl) (wd hw 14 rfl) pd_y_2 rfl (st := [.ref a48]) rfl rfl (G := []) rfl rfl ?_
    rintro _ _ ⟨t50, rfl, rfl⟩
    refine ⟨Or.inl rfl, ?_⟩
    refine Goes.run X [(.astore 12, 2)] (L' := #[.val (.int p0), .val (.int p1), .val (.int p2), .val (.int p3), .val (.int p4), .val (.int p5), .val (.int c43), .val (.int c44), .val (.int c45), .val (.int c46), .val (.int c47), .val (.int (0 : Int32)), .val (.ref a48), .unset, .unset, .unset, .unset, .unset, .unset, .unset, .unset]) (S' := []) (pc' := 62) rfl ?_
    refine Goes.new X _ (wd hw 5 rfl) (wd hw 6 rfl) (wd hw 7 rfl) (new_String hw) (fun a51 => ?_)
    refine Goes.runS X [(.dup, 1), (.iload 11, 2), (.iload 10, 2), (.iload 7, 2), (.iload 8, 2), (.iload 9, 2)] (S' := [.int c46, .int c45, .int c44, .int c47, .int (0 : Int32), .ref a51, .ref a51]) (pc' := 76) rfl ?_
    refine Goes.callS X 2 [] [0, 1, 2] (D_mk0 l Z a0 h0 hw c47 hc47 c44 hc44 c45 hc45 c46 hc46) (wd hw 8 rfl) (wd hw 9 rfl) (wd hw 2 rfl) (wd hw 10 rfl) pd_y_1 rfl (st := [.ref a51, .ref a51]) rfl rfl (G := [(a48, o_String (.ref t50) (.int 0) (.int 0) (.int 0)), (t50, oBs (L1.map own_by)), (a51, o_String .null (.int 0) (.int 0) (.int 0))]) rfl rfl ?_
    rintro _ _ ⟨b52, rfl, rfl⟩
    refine ⟨Or.inl rfl, ?_⟩
    rw [hL2]
    show Goes _ _ _ _ _ _ _ _ _ _ _ _ _ _ _ _ _ _ _ _ [(b52, oCs L2), (a48, o_String (.ref t50) (.int 0) (.int 0) (.int 0)), (t50, oBs (L1.map own_by)), (a51, o_String .null (.int 0) (.int 0) (.int 0))] 5 42 (mkF m 79 #[.val (.int p0), .val (.int p1), .val (.int p2), .val (.int p3), .val (.int p4), .val (.int p5), .val (.int c43), .val (.int c44), .val (.int c45), .val (.int c46), .val (.int c47), .val (.int (0 : Int32)), .val (.ref a48), .unset, .unset, .unset, .unset, .unset, .unset, .unset, .unset] [.ref b52, .ref a51, .ref a51])
    refine Goes.callN X 1 [3, 0] [1, 2] (D_sc l Z a0 h0 hw cs hCS hcs a51 b52 L2 id2 1 n2 (by decide) (by decide)) rfl (wd hw 12 rfl) (wd hw 13 rfl) (wd hw 7 rfl) (wd hw 14 rfl) pd_y_2 rfl (st := [.ref a51]) rfl rfl (G := [(a48, o_String (.ref t50) (.int 0) (.int 0) (.int 0)), (t50, oBs (L1.map own_by))]) rfl rfl ?_
    rintro _ _ ⟨t53, rfl, rfl⟩
    refine ⟨Or.inl rfl, ?_⟩
    refine Goes.run X [(.astore 13, 2)] (L' := #[.val (.int p0), .val (.int p1), .val (.int p2), .val (.int p3), .val (.int p4), .val (.int p5), .val (.int c43), .val (.int c44), .val (.int c45), .val (.int c46), .val (.int c47), .val (.int (0 : Int32)), .val (.ref a48), .val (.ref a51), .unset, .unset, .unset, .unset, .unset, .unset, .unset]) (S' := []) (pc' := 84) rfl ?_
    refine Goes.runS X [(.aload 12, 2)] (S' := [.ref a48]) (pc' := 86) rfl ?_
    refine Goes.callSW X 0 [2, 3] [0, 1] (D_of l Z a0 h0 hw cs hCS hcs sio hSIO hsio a48 t50 (.int 0) (.int 0) L1 id1 1 n1 (by decide) (by decide)) (wd hw 38 rfl) (wd hw 39 rfl) (wd hw 40 rfl) (wd hw 41 rfl) pd_y_7 rfl (st := []) rfl rfl (G := [(a51, o_String (.ref t53) (.int 0) (.int 0) (.int 0)), (t53, oBs (L2.map own_by))]) rfl rfl ?_
    rintro _ _ vm0 k0 ⟨o54, rfl, rfl⟩ X
    refine ⟨Or.inl rfl, ?_⟩
    refine Goes.run X [(.astore 14, 2)] (L' := #[.val (.int p0), .val (.int p1), .val (.int p2), .val (.int p3), .val (.int p4), .val (.int p5), .val (.int c43), .val (.int c44), .val (.int c45), .val (.int c46), .val (.int c47), .val (.int (0 : Int32)), .val (.ref a48), .val (.ref a51), .val (.ref o54), .unset, .unset, .unset, .unset, .unset, .unset]) (S' := []) (pc' := 91) rfl ?_
    refine Goes.runS X [(.aload 13, 2)] (S' := [.ref a51]) (pc' := 93) rfl ?_
    refine Goes.callSW X 0 [3, 4] [0, 1, 2] (D_of l Z a0 h0 hw cs hCS hcs sio hSIO hsio a51 t53 (.int 0) (.int 0) L2 id2 1 n2 (by decide) (by decide)) (wd hw 38 rfl) (wd hw 39 rfl) (wd hw 40 rfl) (wd hw 41 rfl) pd_y_7 rfl (st := []) rfl rfl (G := [(o54, o_Acc (.ref a48)), (a48, o_String (.ref t50) (.int 0) (.int 0) (.int 0)), (t50, oBs (L1.map own_by))]) rfl rfl ?_
    rintro _ _ vm0 k0 ⟨o55, rfl, rfl⟩ X
    refine ⟨Or.inl rfl, ?_⟩
    refine Goes.run X [(.astore 15, 2)] (L' := #[.val (.int p0), .val (.int p1), .val (.int p2), .val (.int p3), .val (.int p4), .val (.int p5), .val (.int c43), .val (.int c44), .val (.int c45), .val (.int c46), .val (.int c47), .val (.int (0 : Int32)), .val (.ref a48), .val (.ref a51), .val (.ref o54), .val (.ref o55), .unset, .unset, .unset, .unset, .unset]) (S' := []) (pc' := 98) rfl ?_
    refine Goes.runS X [(.iload 6, 2), (.iload 10, 2)] (S' := [.int c47, .int c43]) (pc' := 102) rfl ?_
    refine Goes.if2 X (pc' := 109) (o := 7) (cd := .ne) (fun q56 => ?_) (fun q56 => ?_)
    · have h57 : ¬ c43 = c47 := by simpa [if_icmp.holds] using q56
      have hv : own_eq L1 L2 = 0 := by rw [heq, own_eq, if_neg (by simp [h57])]
      refine Goes.run X [(.iconst 0, 1), (.istore 16, 2), (.aload 14, 2)] (L' := #[.val (.int p0), .val (.int p1), .val (.int p2), .val (.int p3), .val (.int p4), .val (.int p5), .val (.int c43), .val (.int c44), .val (.int c45), .val (.int c46), .val (.int c47), .val (.int (0 : Int32)), .val (.ref a48), .val (.ref a51), .val (.ref o54), .val (.ref o55), .val (.int (0 : Int32)), .unset, .unset, .unset, .unset]) (S' := [.ref o54]) (pc' := 114) rfl ?_
      refine Goes.callV X 0 3 [3] [0, 1, 2, 4, 5] rfl (D_tos l Z a0 h0 hw o54 a48) (wd hw 97 rfl) (wd hw 98 rfl) (wd hw 100 rfl) (wd hw 99 rfl) (own_nf X (wd hw 100 rfl)) (wd hw 40 rfl) (wd hw 101 rfl) pd_y_19 rfl (st := []) rfl rfl (G := [(o55, o_Acc (.ref a51)), (a51, o_String (.ref t53) (.int 0) (.int 0) (.int 0)), (t53, oBs (L2.map own_by)), (a48, o_String (.ref t50) (.int 0) (.int 0) (.int 0)), (t50, oBs (L1.map own_by))]) rfl rfl ?_
      rintro _ _ ⟨rfl, rfl⟩
      refine ⟨Or.inr (Or.inr fun _ q => Or.inr (Or.inr q)), ?_⟩
      refine Goes.runS X [(.aload 12, 2)] (S' := [.ref a48, .ref a48]) (pc' := 119) rfl ?_
      refine Goes.callV X 0 4 [] [0, 1, 2, 3, 4, 5] rfl (D_seq1 l Z a0 h0 hw a48) (wd hw 102 rfl) (wd hw 103 rfl) (wd hw 105 rfl) (wd hw 104 rfl) (own_nf X (wd hw 105 rfl)) (wd hw 7 rfl) (wd hw 106 rfl) pd_y_20 rfl (st := []) rfl rfl (G := [(o54, o_Acc (.ref a48)), (o55, o_Acc (.ref a51)), (a51, o_String (.ref t53) (.int 0) (.int 0) (.int 0)), (t53, oBs (L2.map own_by)), (a48, o_String (.ref t50) (.int 0) (.int 0) (.int 0)), (t50, oBs (L1.map own_by))]) rfl rfl ?_
      rintro _ _ ⟨rfl, rfl⟩
      refine ⟨Or.inr (Or.inr fun _ q => Or.inr (Or.inr q)), ?_⟩
      refine Goes.run X [(.istore 17, 2), (.aload 15, 2)] (L' := #[.val (.int p0), .val (.int p1), .val (.int p2), .val (.int p3), .val (.int p4), .val (.int p5), .val (.int c43), .val (.int c44), .val (.int c45), .val (.int c46), .val (.int c47), .val (.int (0 : Int32)), .val (.ref a48), .val (.ref a51), .val (.ref o54), .val (.ref o55), .val (.int (0 : Int32)), .val (.int (1 : Int32)), .unset, .unset, .unset]) (S' := [.ref o55]) (pc' := 126) rfl ?_
      refine Goes.callV X 0 1 [1] [0, 2, 3, 4, 5] rfl (D_tos l Z a0 h0 hw o55 a51) (wd hw 97 rfl) (wd hw 98 rfl) (wd hw 100 rfl) (wd hw 99 rfl) (own_nf X (wd hw 100 rfl)) (wd hw 40 rfl) (wd hw 101 rfl) pd_y_19 rfl (st := []) rfl rfl (G := [(o54, o_Acc (.ref a48)), (a51, o_String (.ref t53) (.int 0) (.int 0) (.int 0)), (t53, oBs (L2.map own_by)), (a48, o_String (.ref t50) (.int 0) (.int 0) (.int 0)), (t50, oBs (L1.map own_by))]) rfl rfl ?_
      rintro _ _ ⟨rfl, rfl⟩
      refine ⟨Or.inr (Or.inr fun _ q => Or.inr (Or.inr q)), ?_⟩
      refine Goes.runS X [(.aload 13, 2)] (S' := [.ref a51, .ref a51]) (pc' := 131) rfl ?_
      refine Goes.callV X 0 2 [] [0, 1, 2, 3, 4, 5] rfl (D_seq1 l Z a0 h0 hw a51) (wd hw 102 rfl) (wd hw 103 rfl) (wd hw 105 rfl) (wd hw 104 rfl) (own_nf X (wd hw 105 rfl)) (wd hw 7 rfl) (wd hw 106 rfl) pd_y_20 rfl (st := []) rfl rfl (G := [(o55, o_Acc (.ref a51)), (o54, o_Acc (.ref a48)), (a51, o_String (.ref t53) (.int 0) (.int 0) (.int 0)), (t53, oBs (L2.map own_by)), (a48, o_String (.ref t50) (.int 0) (.int 0) (.int 0)), (t50, oBs (L1.map own_by))]) rfl rfl ?_
      rintro _ _ ⟨rfl, rfl⟩
      refine ⟨Or.inr (Or.inr fun _ q => Or.inr (Or.inr q)), ?_⟩
      refine Goes.run X [(.istore 18, 2), (.aload 14, 2), (.aload 15, 2)] (L' := #[.val (.int p0), .val (.int p1), .val (.int p2), .val (.int p3), .val (.int p4), .val (.int p5), .val (.int c43), .val (.int c44), .val (.int c45), .val (.int c46), .val (.int c47), .val (.int (0 : Int32)), .val (.ref a48), .val (.ref a51), .val (.ref o54), .val (.ref o55), .val (.int (0 : Int32)), .val (.int (1 : Int32)), .val (.int (1 : Int32)), .unset, .unset]) (S' := [.ref o55, .ref o54]) (pc' := 140) rfl ?_
      refine Goes.callV X 0 1 [1, 0, 4, 2, 5, 3] [] rfl (D_aeq l Z a0 h0 hw cs hCS hcs o54 o55 a48 t50 a51 t53 (.int 0) (.int 0) (.int 0) (.int 0) L1 L2 id1 id2 1 n1 n2 (by decide) (by decide)) (wd hw 107 rfl) (wd hw 108 rfl) (wd hw 110 rfl) (wd hw 109 rfl) (own_nf X (wd hw 110 rfl)) (wd hw 40 rfl) (wd hw 111 rfl) pd_y_21 rfl (st := []) rfl rfl (G := []) rfl rfl ?_
      rintro _ _ ⟨rfl, rfl⟩
      refine ⟨Or.inr (Or.inr fun _ q => Or.inr (Or.inr q)), ?_⟩
      rw [hv]
      show Goes _ _ _ _ _ _ _ _ _ _ _ _ _ _ _ _ _ _ _ _ [(o54, o_Acc (.ref a48)), (o55, o_Acc (.ref a51)), (a48, o_String (.ref t50) (.int 0) (.int 0) (.int 0)), (a51, o_String (.ref t53) (.int 0) (.int 0) (.int 0)), (t50, oBs (L1.map own_by)), (t53, oBs (L2.map own_by))] 12 116 (mkF m 143 #[.val (.int p0), .val (.int p1), .val (.int p2), .val (.int p3), .val (.int p4), .val (.int p5), .val (.int c43), .val (.int c44), .val (.int c45), .val (.int c46), .val (.int c47), .val (.int (0 : Int32)), .val (.ref a48), .val (.ref a51), .val (.ref o54), .val (.ref o55), .val (.int (0 : Int32)), .val (.int (1 : Int32)), .val (.int (1 : Int32)), .unset, .unset] [.int (0 : Int32)])
      refine Goes.runS X [(.iload 16, 2)] (S' := [.int (0 : Int32), .int (0 : Int32)]) (pc' := 145) rfl ?_
      refine Goes.if2 X (pc' := 152) (o := 7) (cd := .ne) (fun q => absurd q (by decide)) (fun _ => ?_)
      refine Goes.runS X [(.iconst 1, 1)] (S' := [.int (1 : Int32)]) (pc' := 149) rfl ?_
      refine Goes.goto X (o := 4) (pc' := 153) ?_
      refine Goes.run X [(.istore 19, 2), (.iload 16, 2)] (L' := #[.val (.int p0), .val (.int p1), .val (.int p2), .val (.int p3), .val (.int p4), .val (.int p5), .val (.int c43), .val (.int c44), .val (.int c45), .val (.int c46), .val (.int c47), .val (.int (0 : Int32)), .val (.ref a48), .val (.ref a51), .val (.ref o54), .val (.ref o55), .val (.int (0 : Int32)), .val (.int (1 : Int32)), .val (.int (1 : Int32)), .val (.int (1 : Int32)), .unset]) (S' := [.int (0 : Int32)]) (pc' := 157) rfl ?_
      refine Goes.if1 X (pc' := 173) (o := 16) (cd := .eq) (fun _ => ?_) (fun q => absurd q (by decide))
      refine Goes.runS X [(.iconst 1, 1)] (S' := [.int (1 : Int32)]) (pc' := 174) rfl ?_
      refine Goes.goto X (o := 4) (pc' := 178) ?_
      refine Goes.run X [(.istore 20, 2), (.iload 17, 2)] (L' := #[.val (.int p0), .val (.int p1), .val (.int p2), .val (.int p3), .val (.int p4), .val (.int p5), .val (.int c43), .val (.int c44), .val (.int c45), .val (.int c46), .val (.int c47), .val (.int (0 : Int32)), .val (.ref a48), .val (.ref a51), .val (.ref o54), .val (.ref o55), .val (.int (0 : Int32)), .val (.int (1 : Int32)), .val (.int (1 : Int32)), .val (.int (1 : Int32)), .val (.int (1 : Int32))]) (S' := [.int (1 : Int32)]) (pc' := 182) rfl ?_
      refine Goes.if1 X (pc' := 204) (o := 22) (cd := .eq) (fun q => absurd q (by decide)) (fun _ => ?_)
      refine Goes.runS X [(.iload 18, 2)] (S' := [.int (1 : Int32)]) (pc' := 187) rfl ?_
      refine Goes.if1 X (pc' := 204) (o := 17) (cd := .eq) (fun q => absurd q (by decide)) (fun _ => ?_)
      refine Goes.runS X [(.iload 19, 2)] (S' := [.int (1 : Int32)]) (pc' := 192) rfl ?_
      refine Goes.if1 X (pc' := 204) (o := 12) (cd := .eq) (fun q => absurd q (by decide)) (fun _ => ?_)
      refine Goes.runS X [(.iload 20, 2)] (S' := [.int (1 : Int32)]) (pc' := 197) rfl ?_
      refine Goes.if1 X (pc' := 204) (o := 7) (cd := .eq) (fun q => absurd q (by decide)) (fun _ => ?_)
      refine Goes.runS X [(.iconst 1, 1)] (S' := [.int (1 : Int32)]) (pc' := 201) rfl ?_
      refine Goes.goto X (o := 4) (pc' := 205) ?_
      refine Goes.retI X (by simp) rfl ?_
      exact rfl
    · have h58 : c43 = c47 := by simpa [if_icmp.holds] using q56
      have hv : own_eq L1 L2 = 1 := by rw [heq, own_eq, if_pos (by simp [h58])]
      refine Goes.runS X [(.iconst 1, 1)] (S' := [.int (1 : Int32)]) (pc' := 106) rfl ?_
      refine Goes.goto X (o := 4) (pc' := 110) ?_
      refine Goes.run X [(.istore 16, 2), (.aload 14, 2)] (L' := #[.val (.int p0), .val (.int p1), .val (.int p2), .val (.int p3), .val (.int p4), .val (.int p5), .val (.int c43), .val (.int c44), .val (.int c45), .val (.int c46), .val (.int c47), .val (.int (0 : Int32)), .val (.ref a48), .val (.ref a51), .val (.ref o54), .val (.ref o55), .val (.int (1 : Int32)), .unset, .unset, .unset, .unset]) (S' := [.ref o54]) (pc' := 114) rfl ?_
      refine Goes.callV X 0 3 [3] [0, 1, 2, 4, 5] rfl (D_tos l Z a0 h0 hw o54 a48) (wd hw 97 rfl) (wd hw 98 rfl) (wd hw 100 rfl) (wd hw 99 rfl) (own_nf X (wd hw 100 rfl)) (wd hw 40 rfl) (wd hw 101 rfl) pd_y_19 rfl (st := []) rfl rfl (G := [(o55, o_Acc (.ref a51)), (a51, o_String (.ref t53) (.int 0) (.int 0) (.int 0)), (t53, oBs (L2.map own_by)), (a48, o_String (.ref t50) (.int 0) (.int 0) (.int 0)), (t50, oBs (L1.map own_by))]) rfl rfl ?_
      rintro _ _ ⟨rfl, rfl⟩
      refine ⟨Or.inr (Or.inr fun _ q => Or.inr (Or.inr q)), ?_⟩
      refine Goes.runS X [(.aload 12, 2)] (S' := [.ref a48, .ref a48]) (pc' := 119) rfl ?_
      refine Goes.callV X 0 4 [] [0, 1, 2, 3, 4, 5] rfl (D_seq1 l Z a0 h0 hw a48) (wd hw 102 rfl) (wd hw 103 rfl) (wd hw 105 rfl) (wd hw 104 rfl) (own_nf X (wd hw 105 rfl)) (wd hw 7 rfl) (wd hw 106 rfl) pd_y_20 rfl (st := []) rfl rfl (G := [(o54, o_Acc (.ref a48)), (o55, o_Acc (.ref a51)), (a51, o_String (.ref t53) (.int 0) (.int 0) (.int 0)), (t53, oBs (L2.map own_by)), (a48, o_String (.ref t50) (.int 0) (.int 0) (.int 0)), (t50, oBs (L1.map own_by))]) rfl rfl ?_
      rintro _ _ ⟨rfl, rfl⟩
      refine ⟨Or.inr (Or.inr fun _ q => Or.inr (Or.inr q)), ?_⟩
      refine Goes.run X [(.istore 17, 2), (.aload 15, 2)] (L' := #[.val (.int p0), .val (.int p1), .val (.int p2), .val (.int p3), .val (.int p4), .val (.int p5), .val (.int c43), .val (.int c44), .val (.int c45), .val (.int c46), .val (.int c47), .val (.int (0 : Int32)), .val (.ref a48), .val (.ref a51), .val (.ref o54), .val (.ref o55), .val (.int (1 : Int32)), .val (.int (1 : Int32)), .unset, .unset, .unset]) (S' := [.ref o55]) (pc' := 126) rfl ?_
      refine Goes.callV X 0 1 [1] [0, 2, 3, 4, 5] rfl (D_tos l Z a0 h0 hw o55 a51) (wd hw 97 rfl) (wd hw 98 rfl) (wd hw 100 rfl) (wd hw 99 rfl) (own_nf X (wd hw 100 rfl)) (wd hw 40 rfl) (wd hw 101 rfl) pd_y_19 rfl (st := []) rfl rfl (G := [(o54, o_Acc (.ref a48)), (a51, o_String (.ref t53) (.int 0) (.int 0) (.int 0)), (t53, oBs (L2.map own_by)), (a48, o_String (.ref t50) (.int 0) (.int 0) (.int 0)), (t50, oBs (L1.map own_by))]) rfl rfl ?_
      rintro _ _ ⟨rfl, rfl⟩
      refine ⟨Or.inr (Or.inr fun _ q => Or.inr (Or.inr q)), ?_⟩
      refine Goes.runS X [(.aload 13, 2)] (S' := [.ref a51, .ref a51]) (pc' := 131) rfl ?_
      refine Goes.callV X 0 2 [] [0, 1, 2, 3, 4, 5] rfl (D_seq1 l Z a0 h0 hw a51) (wd hw 102 rfl) (wd hw 103 rfl) (wd hw 105 rfl) (wd hw 104 rfl) (own_nf X (wd hw 105 rfl)) (wd hw 7 rfl) (wd hw 106 rfl) pd_y_20 rfl (st := []) rfl rfl (G := [(o55, o_Acc (.ref a51)), (o54, o_Acc (.ref a48)), (a51, o_String (.ref t53) (.int 0) (.int 0) (.int 0)), (t53, oBs (L2.map own_by)), (a48, o_String (.ref t50) (.int 0) (.int 0) (.int 0)), (t50, oBs (L1.map own_by))]) rfl rfl ?_
      rintro _ _ ⟨rfl, rfl⟩
      refine ⟨Or.inr (Or.inr fun _ q => Or.inr (Or.inr q)), ?_⟩
      refine Goes.run X [(.istore 18, 2), (.aload 14, 2), (.aload 15, 2)] (L' := #[.val (.int p0), .val (.int p1), .val (.int p2), .val (.int p3), .val (.int p4), .val (.int p5), .val (.int c43), .val (.int c44), .val (.int c45), .val (.int c46), .val (.int c47), .val (.int (0 : Int32)), .val (.ref a48), .val (.ref a51), .val (.ref o54), .val (.ref o55), .val (.int (1 : Int32)), .val (.int (1 : Int32)), .val (.int (1 : Int32)), .unset, .unset]) (S' := [.ref o55, .ref o54]) (pc' := 140) rfl ?_
      refine Goes.callV X 0 1 [1, 0, 4, 2, 5, 3] [] rfl (D_aeq l Z a0 h0 hw cs hCS hcs o54 o55 a48 t50 a51 t53 (.int 0) (.int 0) (.int 0) (.int 0) L1 L2 id1 id2 1 n1 n2 (by decide) (by decide)) (wd hw 107 rfl) (wd hw 108 rfl) (wd hw 110 rfl) (wd hw 109 rfl) (own_nf X (wd hw 110 rfl)) (wd hw 40 rfl) (wd hw 111 rfl) pd_y_21 rfl (st := []) rfl rfl (G := []) rfl rfl ?_
      rintro _ _ ⟨rfl, rfl⟩
      refine ⟨Or.inr (Or.inr fun _ q => Or.inr (Or.inr q)), ?_⟩
      rw [hv]
      show Goes _ _ _ _ _ _ _ _ _ _ _ _ _ _ _ _ _ _ _ _ [(o54, o_Acc (.ref a48)), (o55, o_Acc (.ref a51)), (a48, o_String (.ref t50) (.int 0) (.int 0) (.int 0)), (a51, o_String (.ref t53) (.int 0) (.int 0) (.int 0)), (t50, oBs (L1.map own_by)), (t53, oBs (L2.map own_by))] 12 116 (mkF m 143 #[.val (.int p0), .val (.int p1), .val (.int p2), .val (.int p3), .val (.int p4), .val (.int p5), .val (.int c43), .val (.int c44), .val (.int c45), .val (.int c46), .val (.int c47), .val (.int (0 : Int32)), .val (.ref a48), .val (.ref a51), .val (.ref o54), .val (.ref o55), .val (.int (1 : Int32)), .val (.int (1 : Int32)), .val (.int (1 : Int32)), .unset, .unset] [.int (1 : Int32)])
      refine Goes.runS X [(.iload 16, 2)] (S' := [.int (1 : Int32), .int (1 : Int32)]) (pc' := 145) rfl ?_
      refine Goes.if2 X (pc' := 152) (o := 7) (cd := .ne) (fun q => absurd q (by decide)) (fun _ => ?_)
      refine Goes.runS X [(.iconst 1, 1)] (S' := [.int (1 : Int32)]) (pc' := 149) rfl ?_
      refine Goes.goto X (o := 4) (pc' := 153) ?_
      refine Goes.run X [(.istore 19, 2), (.iload 16, 2)] (L' := #[.val (.int p0), .val (.int p1), .val (.int p2), .val (.int p3), .val (.int p4), .val (.int p5), .val (.int c43), .val (.int c44), .val (.int c45), .val (.int c46), .val (.int c47), .val (.int (0 : Int32)), .val (.ref a48), .val (.ref a51), .val (.ref o54), .val (.ref o55), .val (.int (1 : Int32)), .val (.int (1 : Int32)), .val (.int (1 : Int32)), .val (.int (1 : Int32)), .unset]) (S' := [.int (1 : Int32)]) (pc' := 157) rfl ?_
      refine Goes.if1 X (pc' := 173) (o := 16) (cd := .eq) (fun q => absurd q (by decide)) (fun _ => ?_)
      refine Goes.runS X [(.aload 14, 2)] (S' := [.ref o54]) (pc' := 162) rfl ?_
      have hLL : L2 = L1 := by rw [← hL1, ← hL2, h58]
      refine Goes.callV X 0 0 [0, 2, 4] [1, 3, 5] rfl (D_ahc l Z a0 h0 hw cs hCS hcs o54 a48 t50 L1 id1 1 n1 (by decide) (by decide)) (wd hw 118 rfl) (wd hw 119 rfl) (wd hw 121 rfl) (wd hw 120 rfl) (own_nf X (wd hw 121 rfl)) (wd hw 40 rfl) (wd hw 122 rfl) pd_y_23 rfl (st := []) rfl rfl (G := [(o55, o_Acc (.ref a51)), (a51, o_String (.ref t53) (.int 0) (.int 0) (.int 0)), (t53, oBs (L2.map own_by))]) rfl rfl ?_
      rintro _ _ ⟨x59, z60, rfl, rfl⟩
      refine ⟨Or.inl rfl, ?_⟩
      refine Goes.runS X [(.aload 15, 2)] (S' := [.ref o55, .int (own_h L1 1)]) (pc' := 167) rfl ?_
      refine Goes.callV X 1 3 [3, 4, 5] [0, 1, 2] rfl (D_ahc l Z a0 h0 hw cs hCS hcs o55 a51 t53 L2 id2 1 n2 (by decide) (by decide)) (wd hw 118 rfl) (wd hw 119 rfl) (wd hw 121 rfl) (wd hw 120 rfl) (own_nf X (wd hw 121 rfl)) (wd hw 40 rfl) (wd hw 122 rfl) pd_y_23 rfl (st := [.int (own_h L1 1)]) rfl rfl (G := [(o54, o_Acc (.ref a48)), (a48, o_String (.ref t50) (.int 0) (x59) (z60)), (t50, oBs (L1.map own_by))]) rfl rfl ?_
      rintro _ _ ⟨x61, z62, rfl, rfl⟩
      refine ⟨Or.inl rfl, ?_⟩
      refine Goes.if2 X (pc' := 177) (o := 7) (cd := .ne) (fun q => absurd (q.symm.trans (by rw [hLL]; simp [if_icmp.holds] : if_icmp.holds .ne (own_h L1 1) (own_h L2 1) = false)) (by decide)) (fun _ => ?_)
      refine Goes.runS X [(.iconst 1, 1)] (S' := [.int (1 : Int32)]) (pc' := 174) rfl ?_
      refine Goes.goto X (o := 4) (pc' := 178) ?_
      refine Goes.run X [(.istore 20, 2), (.iload 17, 2)] (L' := #[.val (.int p0), .val (.int p1), .val (.int p2), .val (.int p3), .val (.int p4), .val (.int p5), .val (.int c43), .val (.int c44), .val (.int c45), .val (.int c46), .val (.int c47), .val (.int (0 : Int32)), .val (.ref a48), .val (.ref a51), .val (.ref o54), .val (.ref o55), .val (.int (1 : Int32)), .val (.int (1 : Int32)), .val (.int (1 : Int32)), .val (.int (1 : Int32)), .val (.int (1 : Int32))]) (S' := [.int (1 : Int32)]) (pc' := 182) rfl ?_
      refine Goes.if1 X (pc' := 204) (o := 22) (cd := .eq) (fun q => absurd q (by decide)) (fun _ => ?_)
      refine Goes.runS X [(.iload 18, 2)] (S' := [.int (1 : Int32)]) (pc' := 187) rfl ?_
      refine Goes.if1 X (pc' := 204) (o := 17) (cd := .eq) (fun q => absurd q (by decide)) (fun _ => ?_)
      refine Goes.runS X [(.iload 19, 2)] (S' := [.int (1 : Int32)]) (pc' := 192) rfl ?_
      refine Goes.if1 X (pc' := 204) (o := 12) (cd := .eq) (fun q => absurd q (by decide)) (fun _ => ?_)
      refine Goes.runS X [(.iload 20, 2)] (S' := [.int (1 : Int32)]) (pc' := 197) rfl ?_
      refine Goes.if1 X (pc' := 204) (o := 7) (cd := .eq) (fun q => absurd q (by decide)) (fun _ => ?_)
      refine Goes.runS X [(.iconst 1, 1)] (S' := [.int (1 : Int32)]) (pc' := 201) rfl ?_
      refine Goes.goto X (o := 4) (pc' := 205) ?_
      refine Goes.retI X (by simp) rfl ?_
      exact rfl
  · refine Goes.runS X [(.iload_n 0, 1)] (S' := [.int p0]) (pc' := 1) rfl ?_
    refine Goes.callS X 0 [] [] (D_ch l Z a0 h0 hw p0) (wd hw 0 rfl) (wd hw 1 rfl) (wd hw 2 rfl) (wd hw 3 rfl) pd_y_0 rfl (st := []) rfl rfl (G := []) rfl rfl ?_
    rintro _ _ ⟨c63, rfl, hc63, rfl⟩
    refine ⟨Or.inr (Or.inr fun _ q => Or.inr (Or.inr q)), ?_⟩
    refine Goes.run X [(.istore 6, 2), (.iload_n 1, 1)] (L' := #[.val (.int p0), .val (.int p1), .val (.int p2), .val (.int p3), .val (.int p4), .val (.int p5), .val (.int c63), .unset, .unset, .unset, .unset, .unset, .unset, .unset, .unset, .unset, .unset, .unset, .unset, .unset, .unset]) (S' := [.int p1]) (pc' := 7) rfl ?_
    refine Goes.callS X 0 [] [] (D_ch l Z a0 h0 hw p1) (wd hw 0 rfl) (wd hw 1 rfl) (wd hw 2 rfl) (wd hw 3 rfl) pd_y_0 rfl (st := []) rfl rfl (G := []) rfl rfl ?_
    rintro _ _ ⟨c64, rfl, hc64, rfl⟩
    refine ⟨Or.inr (Or.inr fun _ q => Or.inr (Or.inr q)), ?_⟩
    refine Goes.run X [(.istore 7, 2), (.iload_n 2, 1)] (L' := #[.val (.int p0), .val (.int p1), .val (.int p2), .val (.int p3), .val (.int p4), .val (.int p5), .val (.int c63), .val (.int c64), .unset, .unset, .unset, .unset, .unset, .unset, .unset, .unset, .unset, .unset, .unset, .unset, .unset]) (S' := [.int p2]) (pc' := 13) rfl ?_
    refine Goes.callS X 0 [] [] (D_ch l Z a0 h0 hw p2) (wd hw 0 rfl) (wd hw 1 rfl) (wd hw 2 rfl) (wd hw 3 rfl) pd_y_0 rfl (st := []) rfl rfl (G := []) rfl rfl ?_
    rintro _ _ ⟨c65, rfl, hc65, rfl⟩
    refine ⟨Or.inr (Or.inr fun _ q => Or.inr (Or.inr q)), ?_⟩
    refine Goes.run X [(.istore 8, 2), (.iload_n 3, 1)] (L' := #[.val (.int p0), .val (.int p1), .val (.int p2), .val (.int p3), .val (.int p4), .val (.int p5), .val (.int c63), .val (.int c64), .val (.int c65), .unset, .unset, .unset, .unset, .unset, .unset, .unset, .unset, .unset, .unset, .unset, .unset]) (S' := [.int p3]) (pc' := 19) rfl ?_
    refine Goes.callS X 0 [] [] (D_ch l Z a0 h0 hw p3) (wd hw 0 rfl) (wd hw 1 rfl) (wd hw 2 rfl) (wd hw 3 rfl) pd_y_0 rfl (st := []) rfl rfl (G := []) rfl rfl ?_
    rintro _ _ ⟨c66, rfl, hc66, rfl⟩
    refine ⟨Or.inr (Or.inr fun _ q => Or.inr (Or.inr q)), ?_⟩
    refine Goes.run X [(.istore 9, 2), (.iload 4, 2)] (L' := #[.val (.int p0), .val (.int p1), .val (.int p2), .val (.int p3), .val (.int p4), .val (.int p5), .val (.int c63), .val (.int c64), .val (.int c65), .val (.int c66), .unset, .unset, .unset, .unset, .unset, .unset, .unset, .unset, .unset, .unset, .unset]) (S' := [.int p4]) (pc' := 26) rfl ?_
    refine Goes.callS X 0 [] [] (D_ch l Z a0 h0 hw p4) (wd hw 0 rfl) (wd hw 1 rfl) (wd hw 2 rfl) (wd hw 3 rfl) pd_y_0 rfl (st := []) rfl rfl (G := []) rfl rfl ?_
    rintro _ _ ⟨c67, rfl, hc67, rfl⟩
    refine ⟨Or.inr (Or.inr fun _ q => Or.inr (Or.inr q)), ?_⟩
    refine Goes.run X [(.istore 10, 2), (.iload 5, 2)] (L' := #[.val (.int p0), .val (.int p1), .val (.int p2), .val (.int p3), .val (.int p4), .val (.int p5), .val (.int c63), .val (.int c64), .val (.int c65), .val (.int c66), .val (.int c67), .unset, .unset, .unset, .unset, .unset, .unset, .unset, .unset, .unset, .unset]) (S' := [.int p5]) (pc' := 33) rfl ?_
    refine Goes.ldcI X (wd hw 4 rfl) ?_
    refine Goes.runS X [(.iand, 1), (.iconst 5, 1), (.irem, 1)] (S' := [.int ((p5 &&& (2147483647 : Int32)) % (5 : Int32))]) (pc' := 38) rfl ?_
    rw [e1]
    show Goes _ _ _ _ _ _ _ _ _ _ _ _ _ _ _ _ _ _ _ _ [] 0 0 (mkF m 38 #[.val (.int p0), .val (.int p1), .val (.int p2), .val (.int p3), .val (.int p4), .val (.int p5), .val (.int c63), .val (.int c64), .val (.int c65), .val (.int c66), .val (.int c67), .unset, .unset, .unset, .unset, .unset, .unset, .unset, .unset, .unset, .unset] [.int (1 : Int32)])
    refine Goes.run X [(.istore 11, 2)] (L' := #[.val (.int p0), .val (.int p1), .val (.int p2), .val (.int p3), .val (.int p4), .val (.int p5), .val (.int c63), .val (.int c64), .val (.int c65), .val (.int c66), .val (.int c67), .val (.int (1 : Int32)), .unset, .unset, .unset, .unset, .unset, .unset, .unset, .unset, .unset]) (S' := []) (pc' := 40) rfl ?_
    have id1 : ∀ c ∈ ([c63, c64] : List Int32), own_id c = true := by intro c hc; simp only [List.mem_cons, List.not_mem_nil, or_false] at hc; rcases hc with rfl | rfl <;> assumption
    have id2 : ∀ c ∈ ([c67, c64] : List Int32), own_id c = true := by intro c hc; simp only [List.mem_cons, List.not_mem_nil, or_false] at hc; rcases hc with rfl | rfl <;> assumption
    obtain ⟨L1, hL1⟩ : ∃ z, [c63, c64] = z := ⟨_, rfl⟩
    obtain ⟨L2, hL2⟩ : ∃ z, [c67, c64] = z := ⟨_, rfl⟩
    rw [hL1] at id1
    rw [hL2] at id2
    have n1 : L1.length = 2 := by rw [← hL1]; rfl
    have n2 : L2.length = 2 := by rw [← hL2]; rfl
    have heq : own_eq L1 L2 = own_eq [c63] [c67] := by rw [← hL1, ← hL2]; unfold own_eq; congr 1; simp
    refine Goes.new X _ (wd hw 5 rfl) (wd hw 6 rfl) (wd hw 7 rfl) (new_String hw) (fun a68 => ?_)
    refine Goes.runS X [(.dup, 1), (.iload 11, 2), (.iload 6, 2), (.iload 7, 2), (.iload 8, 2), (.iload 9, 2)] (S' := [.int c66, .int c65, .int c64, .int c63, .int (1 : Int32), .ref a68, .ref a68]) (pc' := 54) rfl ?_
    refine Goes.callS X 2 [] [0] (D_mk1 l Z a0 h0 hw c63 hc63 c64 hc64 c65 hc65 c66 hc66) (wd hw 8 rfl) (wd hw 9 rfl) (wd hw 2 rfl) (wd hw 10 rfl) pd_y_1 rfl (st := [.ref a68, .ref a68]) rfl rfl (G := [(a68, o_String .null (.int 0) (.int 0) (.int 0))]) rfl rfl ?_
    rintro _ _ ⟨b69, rfl, rfl⟩
    refine ⟨Or.inl rfl, ?_⟩
    rw [hL1]
    show Goes _ _ _ _ _ _ _ _ _ _ _ _ _ _ _ _ _ _ _ _ [(b69, oCs L1), (a68, o_String .null (.int 0) (.int 0) (.int 0))] 2 6 (mkF m 57 #[.val (.int p0), .val (.int p1), .val (.int p2), .val (.int p3), .val (.int p4), .val (.int p5), .val (.int c63), .val (.int c64), .val (.int c65), .val (.int c66), .val (.int c67), .val (.int (1 : Int32)), .unset, .unset, .unset, .unset, .unset, .unset, .unset, .unset, .unset] [.ref b69, .ref a68, .ref a68])
    refine Goes.callN X 1 [1, 0] [] (D_sc l Z a0 h0 hw cs hCS hcs a68 b69 L1 id1 2 n1 (by decide) (by decide)) rfl (wd hw 12 rfl) (wd hw 13 rfl) (wd hw 7 rfl) (wd hw 14 rfl) pd_y_2 rfl (st := [.ref a68]) rfl rfl (G := []) rfl rfl ?_
    rintro _ _ ⟨t70, rfl, rfl⟩
    refine ⟨Or.inl rfl, ?_⟩
    refine Goes.run X [(.astore 12, 2)] (L' := #[.val (.int p0), .val (.int p1), .val (.int p2), .val (.int p3), .val (.int p4), .val (.int p5), .val (.int c63), .val (.int c64), .val (.int c65), .val (.int c66), .val (.int c67), .val (.int (1 : Int32)), .val (.ref a68), .unset, .unset, .unset, .unset, .unset, .unset, .unset, .unset]) (S' := []) (pc' := 62) rfl ?_
    refine Goes.new X _ (wd hw 5 rfl) (wd hw 6 rfl) (wd hw 7 rfl) (new_String hw) (fun a71 => ?_)
    refine Goes.runS X [(.dup, 1), (.iload 11, 2), (.iload 10, 2), (.iload 7, 2), (.iload 8, 2), (.iload 9, 2)] (S' := [.int c66, .int c65, .int c64, .int c67, .int (1 : Int32), .ref a71, .ref a71]) (pc' := 76) rfl ?_
    refine Goes.callS X 2 [] [0, 1, 2] (D_mk1 l Z a0 h0 hw c67 hc67 c64 hc64 c65 hc65 c66 hc66) (wd hw 8 rfl) (wd hw 9 rfl) (wd hw 2 rfl) (wd hw 10 rfl) pd_y_1 rfl (st := [.ref a71, .ref a71]) rfl rfl (G := [(a68, o_String (.ref t70) (.int 0) (.int 0) (.int 0)), (t70, oBs (L1.map own_by)), (a71, o_String .null (.int 0) (.int 0) (.int 0))]) rfl rfl ?_
    rintro _ _ ⟨b72, rfl, rfl⟩
    refine ⟨Or.inl rfl, ?_⟩
    rw [hL2]
    show Goes _ _ _ _ _ _ _ _ _ _ _ _ _ _ _ _ _ _ _ _ [(b72, oCs L2), (a68, o_String (.ref t70) (.int 0) (.int 0) (.int 0)), (t70, oBs (L1.map own_by)), (a71, o_String .null (.int 0) (.int 0) (.int 0))] 5 44 (mkF m 79 #[.val (.int p0), .val (.int p1), .val (.int p2), .val (.int p3), .val (.int p4), .val (.int p5), .val (.int c63), .val (.int c64), .val (.int c65), .val (.int c66), .val (.int c67), .val (.int (1 : Int32)), .val (.ref a68), .unset, .unset, .unset, .unset, .unset, .unset, .unset, .unset] [.ref b72, .ref a71, .ref a71])
    refine Goes.callN X 1 [3, 0] [1, 2] (D_sc l Z a0 h0 hw cs hCS hcs a71 b72 L2 id2 2 n2 (by decide) (by decide)) rfl (wd hw 12 rfl) (wd hw 13 rfl) (wd hw 7 rfl) (wd hw 14 rfl) pd_y_2 rfl (st := [.ref a71]) rfl rfl (G := [(a68, o_String (.ref t70) (.int 0) (.int 0) (.int 0)), (t70, oBs (L1.map own_by))]) rfl rfl ?_
    rintro _ _ ⟨t73, rfl, rfl⟩
    refine ⟨Or.inl rfl, ?_⟩
    refine Goes.run X [(.astore 13, 2)] (L' := #[.val (.int p0), .val (.int p1), .val (.int p2), .val (.int p3), .val (.int p4), .val (.int p5), .val (.int c63), .val (.int c64), .val (.int c65), .val (.int c66), .val (.int c67), .val (.int (1 : Int32)), .val (.ref a68), .val (.ref a71), .unset, .unset, .unset, .unset, .unset, .unset, .unset]) (S' := []) (pc' := 84) rfl ?_
    refine Goes.runS X [(.aload 12, 2)] (S' := [.ref a68]) (pc' := 86) rfl ?_
    refine Goes.callSW X 0 [2, 3] [0, 1] (D_of l Z a0 h0 hw cs hCS hcs sio hSIO hsio a68 t70 (.int 0) (.int 0) L1 id1 2 n1 (by decide) (by decide)) (wd hw 38 rfl) (wd hw 39 rfl) (wd hw 40 rfl) (wd hw 41 rfl) pd_y_7 rfl (st := []) rfl rfl (G := [(a71, o_String (.ref t73) (.int 0) (.int 0) (.int 0)), (t73, oBs (L2.map own_by))]) rfl rfl ?_
    rintro _ _ vm0 k0 ⟨o74, rfl, rfl⟩ X
    refine ⟨Or.inl rfl, ?_⟩
    refine Goes.run X [(.astore 14, 2)] (L' := #[.val (.int p0), .val (.int p1), .val (.int p2), .val (.int p3), .val (.int p4), .val (.int p5), .val (.int c63), .val (.int c64), .val (.int c65), .val (.int c66), .val (.int c67), .val (.int (1 : Int32)), .val (.ref a68), .val (.ref a71), .val (.ref o74), .unset, .unset, .unset, .unset, .unset, .unset]) (S' := []) (pc' := 91) rfl ?_
    refine Goes.runS X [(.aload 13, 2)] (S' := [.ref a71]) (pc' := 93) rfl ?_
    refine Goes.callSW X 0 [3, 4] [0, 1, 2] (D_of l Z a0 h0 hw cs hCS hcs sio hSIO hsio a71 t73 (.int 0) (.int 0) L2 id2 2 n2 (by decide) (by decide)) (wd hw 38 rfl) (wd hw 39 rfl) (wd hw 40 rfl) (wd hw 41 rfl) pd_y_7 rfl (st := []) rfl rfl (G := [(o74, o_Acc (.ref a68)), (a68, o_String (.ref t70) (.int 0) (.int 0) (.int 0)), (t70, oBs (L1.map own_by))]) rfl rfl ?_
    rintro _ _ vm0 k0 ⟨o75, rfl, rfl⟩ X
    refine ⟨Or.inl rfl, ?_⟩
    refine Goes.run X [(.astore 15, 2)] (L' := #[.val (.int p0), .val (.int p1), .val (.int p2), .val (.int p3), .val (.int p4), .val (.int p5), .val (.int c63), .val (.int c64), .val (.int c65), .val (.int c66), .val (.int c67), .val (.int (1 : Int32)), .val (.ref a68), .val (.ref a71), .val (.ref o74), .val (.ref o75), .unset, .unset, .unset, .unset, .unset]) (S' := []) (pc' := 98) rfl ?_
    refine Goes.runS X [(.iload 6, 2), (.iload 10, 2)] (S' := [.int c67, .int c63]) (pc' := 102) rfl ?_
    refine Goes.if2 X (pc' := 109) (o := 7) (cd := .ne) (fun q76 => ?_) (fun q76 => ?_)
    · have h77 : ¬ c63 = c67 := by simpa [if_icmp.holds] using q76
      have hv : own_eq L1 L2 = 0 := by rw [heq, own_eq, if_neg (by simp [h77])]
      refine Goes.run X [(.iconst 0, 1), (.istore 16, 2), (.aload 14, 2)] (L' := #[.val (.int p0), .val (.int p1), .val (.int p2), .val (.int p3), .val (.int p4), .val (.int p5), .val (.int c63), .val (.int c64), .val (.int c65), .val (.int c66), .val (.int c67), .val (.int (1 : Int32)), .val (.ref a68), .val (.ref a71), .val (.ref o74), .val (.ref o75), .val (.int (0 : Int32)), .unset, .unset, .unset, .unset]) (S' := [.ref o74]) (pc' := 114) rfl ?_
      refine Goes.callV X 0 3 [3] [0, 1, 2, 4, 5] rfl (D_tos l Z a0 h0 hw o74 a68) (wd hw 97 rfl) (wd hw 98 rfl) (wd hw 100 rfl) (wd hw 99 rfl) (own_nf X (wd hw 100 rfl)) (wd hw 40 rfl) (wd hw 101 rfl) pd_y_19 rfl (st := []) rfl rfl (G := [(o75, o_Acc (.ref a71)), (a71, o_String (.ref t73) (.int 0) (.int 0) (.int 0)), (t73, oBs (L2.map own_by)), (a68, o_String (.ref t70) (.int 0) (.int 0) (.int 0)), (t70, oBs (L1.map own_by))]) rfl rfl ?_
      rintro _ _ ⟨rfl, rfl⟩
      refine ⟨Or.inr (Or.inr fun _ q => Or.inr (Or.inr q)), ?_⟩
      refine Goes.runS X [(.aload 12, 2)] (S' := [.ref a68, .ref a68]) (pc' := 119) rfl ?_
      refine Goes.callV X 0 4 [] [0, 1, 2, 3, 4, 5] rfl (D_seq1 l Z a0 h0 hw a68) (wd hw 102 rfl) (wd hw 103 rfl) (wd hw 105 rfl) (wd hw 104 rfl) (own_nf X (wd hw 105 rfl)) (wd hw 7 rfl) (wd hw 106 rfl) pd_y_20 rfl (st := []) rfl rfl (G := [(o74, o_Acc (.ref a68)), (o75, o_Acc (.ref a71)), (a71, o_String (.ref t73) (.int 0) (.int 0) (.int 0)), (t73, oBs (L2.map own_by)), (a68, o_String (.ref t70) (.int 0) (.int 0) (.int 0)), (t70, oBs (L1.map own_by))]) rfl rfl ?_
      rintro _ _ ⟨rfl, rfl⟩
      refine ⟨Or.inr (Or.inr fun _ q => Or.inr (Or.inr q)), ?_⟩
      refine Goes.run X [(.istore 17, 2), (.aload 15, 2)] (L' := #[.val (.int p0), .val (.int p1), .val (.int p2), .val (.int p3), .val (.int p4), .val (.int p5), .val (.int c63), .val (.int c64), .val (.int c65), .val (.int c66), .val (.int c67), .val (.int (1 : Int32)), .val (.ref a68), .val (.ref a71), .val (.ref o74), .val (.ref o75), .val (.int (0 : Int32)), .val (.int (1 : Int32)), .unset, .unset, .unset]) (S' := [.ref o75]) (pc' := 126) rfl ?_
      refine Goes.callV X 0 1 [1] [0, 2, 3, 4, 5] rfl (D_tos l Z a0 h0 hw o75 a71) (wd hw 97 rfl) (wd hw 98 rfl) (wd hw 100 rfl) (wd hw 99 rfl) (own_nf X (wd hw 100 rfl)) (wd hw 40 rfl) (wd hw 101 rfl) pd_y_19 rfl (st := []) rfl rfl (G := [(o74, o_Acc (.ref a68)), (a71, o_String (.ref t73) (.int 0) (.int 0) (.int 0)), (t73, oBs (L2.map own_by)), (a68, o_String (.ref t70) (.int 0) (.int 0) (.int 0)), (t70, oBs (L1.map own_by))]) rfl rfl ?_
      rintro _ _ ⟨rfl, rfl⟩
      refine ⟨Or.inr (Or.inr fun _ q => Or.inr (Or.inr q)), ?_⟩
      refine Goes.runS X [(.aload 13, 2)] (S' := [.ref a71, .ref a71]) (pc' := 131) rfl ?_
      refine Goes.callV X 0 2 [] [0, 1, 2, 3, 4, 5] rfl (D_seq1 l Z a0 h0 hw a71) (wd hw 102 rfl) (wd hw 103 rfl) (wd hw 105 rfl) (wd hw 104 rfl) (own_nf X (wd hw 105 rfl)) (wd hw 7 rfl) (wd hw 106 rfl) pd_y_20 rfl (st := []) rfl rfl (G := [(o75, o_Acc (.ref a71)), (o74, o_Acc (.ref a68)), (a71, o_String (.ref t73) (.int 0) (.int 0) (.int 0)), (t73, oBs (L2.map own_by)), (a68, o_String (.ref t70) (.int 0) (.int 0) (.int 0)), (t70, oBs (L1.map own_by))]) rfl rfl ?_
      rintro _ _ ⟨rfl, rfl⟩
      refine ⟨Or.inr (Or.inr fun _ q => Or.inr (Or.inr q)), ?_⟩
      refine Goes.run X [(.istore 18, 2), (.aload 14, 2), (.aload 15, 2)] (L' := #[.val (.int p0), .val (.int p1), .val (.int p2), .val (.int p3), .val (.int p4), .val (.int p5), .val (.int c63), .val (.int c64), .val (.int c65), .val (.int c66), .val (.int c67), .val (.int (1 : Int32)), .val (.ref a68), .val (.ref a71), .val (.ref o74), .val (.ref o75), .val (.int (0 : Int32)), .val (.int (1 : Int32)), .val (.int (1 : Int32)), .unset, .unset]) (S' := [.ref o75, .ref o74]) (pc' := 140) rfl ?_
      refine Goes.callV X 0 1 [1, 0, 4, 2, 5, 3] [] rfl (D_aeq l Z a0 h0 hw cs hCS hcs o74 o75 a68 t70 a71 t73 (.int 0) (.int 0) (.int 0) (.int 0) L1 L2 id1 id2 2 n1 n2 (by decide) (by decide)) (wd hw 107 rfl) (wd hw 108 rfl) (wd hw 110 rfl) (wd hw 109 rfl) (own_nf X (wd hw 110 rfl)) (wd hw 40 rfl) (wd hw 111 rfl) pd_y_21 rfl (st := []) rfl rfl (G := []) rfl rfl ?_
      rintro _ _ ⟨rfl, rfl⟩
      refine ⟨Or.inr (Or.inr fun _ q => Or.inr (Or.inr q)), ?_⟩
      rw [hv]
      show Goes _ _ _ _ _ _ _ _ _ _ _ _ _ _ _ _ _ _ _ _ [(o74, o_Acc (.ref a68)), (o75, o_Acc (.ref a71)), (a68, o_String (.ref t70) (.int 0) (.int 0) (.int 0)), (a71, o_String (.ref t73) (.int 0) (.int 0) (.int 0)), (t70, oBs (L1.map own_by)), (t73, oBs (L2.map own_by))] 12 118 (mkF m 143 #[.val (.int p0), .val (.int p1), .val (.int p2), .val (.int p3), .val (.int p4), .val (.int p5), .val (.int c63), .val (.int c64), .val (.int c65), .val (.int c66), .val (.int c67), .val (.int (1 : Int32)), .val (.ref a68), .val (.ref a71), .val (.ref o74), .val (.ref o75), .val (.int (0 : Int32)), .val (.int (1 : Int32)), .val (.int (1 : Int32)), .unset, .unset] [.int (0 : Int32)])
      refine Goes.runS X [(.iload 16, 2)] (S' := [.int (0 : Int32), .int (0 : Int32)]) (pc' := 145) rfl ?_
      refine Goes.if2 X (pc' := 152) (o := 7) (cd := .ne) (fun q => absurd q (by decide)) (fun _ => ?_)
      refine Goes.runS X [(.iconst 1, 1)] (S' := [.int (1 : Int32)]) (pc' := 149) rfl ?_
      refine Goes.goto X (o := 4) (pc' := 153) ?_
      refine Goes.run X [(.istore 19, 2), (.iload 16, 2)] (L' := #[.val (.int p0), .val (.int p1), .val (.int p2), .val (.int p3), .val (.int p4), .val (.int p5), .val (.int c63), .val (.int c64), .val (.int c65), .val (.int c66), .val (.int c67), .val (.int (1 : Int32)), .val (.ref a68), .val (.ref a71), .val (.ref o74), .val (.ref o75), .val (.int (0 : Int32)), .val (.int (1 : Int32)), .val (.int (1 : Int32)), .val (.int (1 : Int32)), .unset]) (S' := [.int (0 : Int32)]) (pc' := 157) rfl ?_
      refine Goes.if1 X (pc' := 173) (o := 16) (cd := .eq) (fun _ => ?_) (fun q => absurd q (by decide))
      refine Goes.runS X [(.iconst 1, 1)] (S' := [.int (1 : Int32)]) (pc' := 174) rfl ?_
      refine Goes.goto X (o := 4) (pc' := 178) ?_
      refine Goes.run X [(.istore 20, 2), (.iload 17, 2)] (L' := #[.val (.int p0), .val (.int p1), .val (.int p2), .val (.int p3), .val (.int p4), .val (.int p5), .val (.int c63), .val (.int c64), .val (.int c65), .val (.int c66), .val (.int c67), .val (.int (1 : Int32)), .val (.ref a68), .val (.ref a71), .val (.ref o74), .val (.ref o75), .val (.int (0 : Int32)), .val (.int (1 : Int32)), .val (.int (1 : Int32)), .val (.int (1 : Int32)), .val (.int (1 : Int32))]) (S' := [.int (1 : Int32)]) (pc' := 182) rfl ?_
      refine Goes.if1 X (pc' := 204) (o := 22) (cd := .eq) (fun q => absurd q (by decide)) (fun _ => ?_)
      refine Goes.runS X [(.iload 18, 2)] (S' := [.int (1 : Int32)]) (pc' := 187) rfl ?_
      refine Goes.if1 X (pc' := 204) (o := 17) (cd := .eq) (fun q => absurd q (by decide)) (fun _ => ?_)
      refine Goes.runS X [(.iload 19, 2)] (S' := [.int (1 : Int32)]) (pc' := 192) rfl ?_
      refine Goes.if1 X (pc' := 204) (o := 12) (cd := .eq) (fun q => absurd q (by decide)) (fun _ => ?_)
      refine Goes.runS X [(.iload 20, 2)] (S' := [.int (1 : Int32)]) (pc' := 197) rfl ?_
      refine Goes.if1 X (pc' := 204) (o := 7) (cd := .eq) (fun q => absurd q (by decide)) (fun _ => ?_)
      refine Goes.runS X [(.iconst 1, 1)] (S' := [.int (1 : Int32)]) (pc' := 201) rfl ?_
      refine Goes.goto X (o := 4) (pc' := 205) ?_
      refine Goes.retI X (by simp) rfl ?_
      exact rfl
    · have h78 : c63 = c67 := by simpa [if_icmp.holds] using q76
      have hv : own_eq L1 L2 = 1 := by rw [heq, own_eq, if_pos (by simp [h78])]
      refine Goes.runS X [(.iconst 1, 1)] (S' := [.int (1 : Int32)]) (pc' := 106) rfl ?_
      refine Goes.goto X (o := 4) (pc' := 110) ?_
      refine Goes.run X [(.istore 16, 2), (.aload 14, 2)] (L' := #[.val (.int p0), .val (.int p1), .val (.int p2), .val (.int p3), .val (.int p4), .val (.int p5), .val (.int c63), .val (.int c64), .val (.int c65), .val (.int c66), .val (.int c67), .val (.int (1 : Int32)), .val (.ref a68), .val (.ref a71), .val (.ref o74), .val (.ref o75), .val (.int (1 : Int32)), .unset, .unset, .unset, .unset]) (S' := [.ref o74]) (pc' := 114) rfl ?_
      refine Goes.callV X 0 3 [3] [0, 1, 2, 4, 5] rfl (D_tos l Z a0 h0 hw o74 a68) (wd hw 97 rfl) (wd hw 98 rfl) (wd hw 100 rfl) (wd hw 99 rfl) (own_nf X (wd hw 100 rfl)) (wd hw 40 rfl) (wd hw 101 rfl) pd_y_19 rfl (st := []) rfl rfl (G := [(o75, o_Acc (.ref a71)), (a71, o_String (.ref t73) (.int 0) (.int 0) (.int 0)), (t73, oBs (L2.map own_by)), (a68, o_String (.ref t70) (.int 0) (.int 0) (.int 0)), (t70, oBs (L1.map own_by))]) rfl rfl ?_
      rintro _ _ ⟨rfl, rfl⟩
      refine ⟨Or.inr (Or.inr fun _ q => Or.inr (Or.inr q)), ?_⟩
      refine Goes.runS X [(.aload 12, 2)] (S' := [.ref a68, .ref a68]) (pc' := 119) rfl ?_
      refine Goes.callV X 0 4 [] [0, 1, 2, 3, 4, 5] rfl (D_seq1 l Z a0 h0 hw a68) (wd hw 102 rfl) (wd hw 103 rfl) (wd hw 105 rfl) (wd hw 104 rfl) (own_nf X (wd hw 105 rfl)) (wd hw 7 rfl) (wd hw 106 rfl) pd_y_20 rfl (st := []) rfl rfl (G := [(o74, o_Acc (.ref a68)), (o75, o_Acc (.ref a71)), (a71, o_String (.ref t73) (.int 0) (.int 0) (.int 0)), (t73, oBs (L2.map own_by)), (a68, o_String (.ref t70) (.int 0) (.int 0) (.int 0)), (t70, oBs (L1.map own_by))]) rfl rfl ?_
      rintro _ _ ⟨rfl, rfl⟩
      refine ⟨Or.inr (Or.inr fun _ q => Or.inr (Or.inr q)), ?_⟩
      refine Goes.run X [(.istore 17, 2), (.aload 15, 2)] (L' := #[.val (.int p0), .val (.int p1), .val (.int p2), .val (.int p3), .val (.int p4), .val (.int p5), .val (.int c63), .val (.int c64), .val (.int c65), .val (.int c66), .val (.int c67), .val (.int (1 : Int32)), .val (.ref a68), .val (.ref a71), .val (.ref o74), .val (.ref o75), .val (.int (1 : Int32)), .val (.int (1 : Int32)), .unset, .unset, .unset]) (S' := [.ref o75]) (pc' := 126) rfl ?_
      refine Goes.callV X 0 1 [1] [0, 2, 3, 4, 5] rfl (D_tos l Z a0 h0 hw o75 a71) (wd hw 97 rfl) (wd hw 98 rfl) (wd hw 100 rfl) (wd hw 99 rfl) (own_nf X (wd hw 100 rfl)) (wd hw 40 rfl) (wd hw 101 rfl) pd_y_19 rfl (st := []) rfl rfl (G := [(o74, o_Acc (.ref a68)), (a71, o_String (.ref t73) (.int 0) (.int 0) (.int 0)), (t73, oBs (L2.map own_by)), (a68, o_String (.ref t70) (.int 0) (.int 0) (.int 0)), (t70, oBs (L1.map own_by))]) rfl rfl ?_
      rintro _ _ ⟨rfl, rfl⟩
      refine ⟨Or.inr (Or.inr fun _ q => Or.inr (Or.inr q)), ?_⟩
      refine Goes.runS X [(.aload 13, 2)] (S' := [.ref a71, .ref a71]) (pc' := 131) rfl ?_
      refine Goes.callV X 0 2 [] [0, 1, 2, 3, 4, 5] rfl (D_seq1 l Z a0 h0 hw a71) (wd hw 102 rfl) (wd hw 103 rfl) (wd hw 105 rfl) (wd hw 104 rfl) (own_nf X (wd hw 105 rfl)) (wd hw 7 rfl) (wd hw 106 rfl) pd_y_20 rfl (st := []) rfl rfl (G := [(o75, o_Acc (.ref a71)), (o74, o_Acc (.ref a68)), (a71, o_String (.ref t73) (.int 0) (.int 0) (.int 0)), (t73, oBs (L2.map own_by)), (a68, o_String (.ref t70) (.int 0) (.int 0) (.int 0)), (t70, oBs (L1.map own_by))]) rfl rfl ?_
      rintro _ _ ⟨rfl, rfl⟩
      refine ⟨Or.inr (Or.inr fun _ q => Or.inr (Or.inr q)), ?_⟩
      refine Goes.run X [(.istore 18, 2), (.aload 14, 2), (.aload 15, 2)] (L' := #[.val (.int p0), .val (.int p1), .val (.int p2), .val (.int p3), .val (.int p4), .val (.int p5), .val (.int c63), .val (.int c64), .val (.int c65), .val (.int c66), .val (.int c67), .val (.int (1 : Int32)), .val (.ref a68), .val (.ref a71), .val (.ref o74), .val (.ref o75), .val (.int (1 : Int32)), .val (.int (1 : Int32)), .val (.int (1 : Int32)), .unset, .unset]) (S' := [.ref o75, .ref o74]) (pc' := 140) rfl ?_
      refine Goes.callV X 0 1 [1, 0, 4, 2, 5, 3] [] rfl (D_aeq l Z a0 h0 hw cs hCS hcs o74 o75 a68 t70 a71 t73 (.int 0) (.int 0) (.int 0) (.int 0) L1 L2 id1 id2 2 n1 n2 (by decide) (by decide)) (wd hw 107 rfl) (wd hw 108 rfl) (wd hw 110 rfl) (wd hw 109 rfl) (own_nf X (wd hw 110 rfl)) (wd hw 40 rfl) (wd hw 111 rfl) pd_y_21 rfl (st := []) rfl rfl (G := []) rfl rfl ?_
      rintro _ _ ⟨rfl, rfl⟩
      refine ⟨Or.inr (Or.inr fun _ q => Or.inr (Or.inr q)), ?_⟩
      rw [hv]
      show Goes _ _ _ _ _ _ _ _ _ _ _ _ _ _ _ _ _ _ _ _ [(o74, o_Acc (.ref a68)), (o75, o_Acc (.ref a71)), (a68, o_String (.ref t70) (.int 0) (.int 0) (.int 0)), (a71, o_String (.ref t73) (.int 0) (.int 0) (.int 0)), (t70, oBs (L1.map own_by)), (t73, oBs (L2.map own_by))] 12 118 (mkF m 143 #[.val (.int p0), .val (.int p1), .val (.int p2), .val (.int p3), .val (.int p4), .val (.int p5), .val (.int c63), .val (.int c64), .val (.int c65), .val (.int c66), .val (.int c67), .val (.int (1 : Int32)), .val (.ref a68), .val (.ref a71), .val (.ref o74), .val (.ref o75), .val (.int (1 : Int32)), .val (.int (1 : Int32)), .val (.int (1 : Int32)), .unset, .unset] [.int (1 : Int32)])
      refine Goes.runS X [(.iload 16, 2)] (S' := [.int (1 : Int32), .int (1 : Int32)]) (pc' := 145) rfl ?_
      refine Goes.if2 X (pc' := 152) (o := 7) (cd := .ne) (fun q => absurd q (by decide)) (fun _ => ?_)
      refine Goes.runS X [(.iconst 1, 1)] (S' := [.int (1 : Int32)]) (pc' := 149) rfl ?_
      refine Goes.goto X (o := 4) (pc' := 153) ?_
      refine Goes.run X [(.istore 19, 2), (.iload 16, 2)] (L' := #[.val (.int p0), .val (.int p1), .val (.int p2), .val (.int p3), .val (.int p4), .val (.int p5), .val (.int c63), .val (.int c64), .val (.int c65), .val (.int c66), .val (.int c67), .val (.int (1 : Int32)), .val (.ref a68), .val (.ref a71), .val (.ref o74), .val (.ref o75), .val (.int (1 : Int32)), .val (.int (1 : Int32)), .val (.int (1 : Int32)), .val (.int (1 : Int32)), .unset]) (S' := [.int (1 : Int32)]) (pc' := 157) rfl ?_
      refine Goes.if1 X (pc' := 173) (o := 16) (cd := .eq) (fun q => absurd q (by decide)) (fun _ => ?_)
      refine Goes.runS X [(.aload 14, 2)] (S' := [.ref o74]) (pc' := 162) rfl ?_
      have hLL : L2 = L1 := by rw [← hL1, ← hL2, h78]
      refine Goes.callV X 0 0 [0, 2, 4] [1, 3, 5] rfl (D_ahc l Z a0 h0 hw cs hCS hcs o74 a68 t70 L1 id1 2 n1 (by decide) (by decide)) (wd hw 118 rfl) (wd hw 119 rfl) (wd hw 121 rfl) (wd hw 120 rfl) (own_nf X (wd hw 121 rfl)) (wd hw 40 rfl) (wd hw 122 rfl) pd_y_23 rfl (st := []) rfl rfl (G := [(o75, o_Acc (.ref a71)), (a71, o_String (.ref t73) (.int 0) (.int 0) (.int 0)), (t73, oBs (L2.map own_by))]) rfl rfl ?_
      rintro _ _ ⟨x79, z80, rfl, rfl⟩
      refine ⟨Or.inl rfl, ?_⟩
      refine Goes.runS X [(.aload 15, 2)] (S' := [.ref o75, .int (own_h L1 2)]) (pc' := 167) rfl ?_
      refine Goes.callV X 1 3 [3, 4, 5] [0, 1, 2] rfl (D_ahc l Z a0 h0 hw cs hCS hcs o75 a71 t73 L2 id2 2 n2 (by decide) (by decide)) (wd hw 118 rfl) (wd hw 119 rfl) (wd hw 121 rfl) (wd hw 120 rfl) (own_nf X (wd hw 121 rfl)) (wd hw 40 rfl) (wd hw 122 rfl) pd_y_23 rfl (st := [.int (own_h L1 2)]) rfl rfl (G := [(o74, o_Acc (.ref a68)), (a68, o_String (.ref t70) (.int 0) (x79) (z80)), (t70, oBs (L1.map own_by))]) rfl rfl ?_
      rintro _ _ ⟨x81, z82, rfl, rfl⟩
      refine ⟨Or.inl rfl, ?_⟩
      refine Goes.if2 X (pc' := 177) (o := 7) (cd := .ne) (fun q => absurd (q.symm.trans (by rw [hLL]; simp [if_icmp.holds] : if_icmp.holds .ne (own_h L1 2) (own_h L2 2) = false)) (by decide)) (fun _ => ?_)
      refine Goes.runS X [(.iconst 1, 1)] (S' := [.int (1 : Int32)]) (pc' := 174) rfl ?_
      refine Goes.goto X (o := 4) (pc' := 178) ?_
      refine Goes.run X [(.istore 20, 2), (.iload 17, 2)] (L' := #[.val (.int p0), .val (.int p1), .val (.int p2), .val (.int p3), .val (.int p4), .val (.int p5), .val (.int c63), .val (.int c64), .val (.int c65), .val (.int c66), .val (.int c67), .val (.int (1 : Int32)), .val (.ref a68), .val (.ref a71), .val (.ref o74), .val (.ref o75), .val (.int (1 : Int32)), .val (.int (1 : Int32)), .val (.int (1 : Int32)), .val (.int (1 : Int32)), .val (.int (1 : Int32))]) (S' := [.int (1 : Int32)]) (pc' := 182) rfl ?_
      refine Goes.if1 X (pc' := 204) (o := 22) (cd := .eq) (fun q => absurd q (by decide)) (fun _ => ?_)
      refine Goes.runS X [(.iload 18, 2)] (S' := [.int (1 : Int32)]) (pc' := 187) rfl ?_
      refine Goes.if1 X (pc' := 204) (o := 17) (cd := .eq) (fun q => absurd q (by decide)) (fun _ => ?_)
      refine Goes.runS X [(.iload 19, 2)] (S' := [.int (1 : Int32)]) (pc' := 192) rfl ?_
      refine Goes.if1 X (pc' := 204) (o := 12) (cd := .eq) (fun q => absurd q (by decide)) (fun _ => ?_)
      refine Goes.runS X [(.iload 20, 2)] (S' := [.int (1 : Int32)]) (pc' := 197) rfl ?_
      refine Goes.if1 X (pc' := 204) (o := 7) (cd := .eq) (fun q => absurd q (by decide)) (fun _ => ?_)
      refine Goes.runS X [(.iconst 1, 1)] (S' := [.int (1 : Int32)]) (pc' := 201) rfl ?_
      refine Goes.goto X (o := 4) (pc' := 205) ?_
      refine Goes.retI X (by simp) rfl ?_
      exact rfl
  · refine Goes.runS X [(.iload_n 0, 1)] (S' := [.int p0]) (pc' := 1) rfl ?_
    refine Goes.callS X 0 [] [] (D_ch l Z a0 h0 hw p0) (wd hw 0 rfl) (wd hw 1 rfl) (wd hw 2 rfl) (wd hw 3 rfl) pd_y_0 rfl (st := []) rfl rfl (G := []) rfl rfl ?_
    rintro _ _ ⟨c83, rfl, hc83, rfl⟩
    refine ⟨Or.inr (Or.inr fun _ q => Or.inr (Or.inr q)), ?_⟩
    refine Goes.run X [(.istore 6, 2), (.iload_n 1, 1)] (L' := #[.val (.int p0), .val (.int p1), .val (.int p2), .val (.int p3), .val (.int p4), .val (.int p5), .val (.int c83), .unset, .unset, .unset, .unset, .unset, .unset, .unset, .unset, .unset, .unset, .unset, .unset, .unset, .unset]) (S' := [.int p1]) (pc' := 7) rfl ?_
    refine Goes.callS X 0 [] [] (D_ch l Z a0 h0 hw p1) (wd hw 0 rfl) (wd hw 1 rfl) (wd hw 2 rfl) (wd hw 3 rfl) pd_y_0 rfl (st := []) rfl rfl (G := []) rfl rfl ?_
    rintro _ _ ⟨c84, rfl, hc84, rfl⟩
    refine ⟨Or.inr (Or.inr fun _ q => Or.inr (Or.inr q)), ?_⟩
    refine Goes.run X [(.istore 7, 2), (.iload_n 2, 1)] (L' := #[.val (.int p0), .val (.int p1), .val (.int p2), .val (.int p3), .val (.int p4), .val (.int p5), .val (.int c83), .val (.int c84), .unset, .unset, .unset, .unset, .unset, .unset, .unset, .unset, .unset, .unset, .unset, .unset, .unset]) (S' := [.int p2]) (pc' := 13) rfl ?_
    refine Goes.callS X 0 [] [] (D_ch l Z a0 h0 hw p2) (wd hw 0 rfl) (wd hw 1 rfl) (wd hw 2 rfl) (wd hw 3 rfl) pd_y_0 rfl (st := []) rfl rfl (G := []) rfl rfl ?_
    rintro _ _ ⟨c85, rfl, hc85, rfl⟩
    refine ⟨Or.inr (Or.inr fun _ q => Or.inr (Or.inr q)), ?_⟩
    refine Goes.run X [(.istore 8, 2), (.iload_n 3, 1)] (L' := #[.val (.int p0), .val (.int p1), .val (.int p2), .val (.int p3), .val (.int p4), .val (.int p5), .val (.int c83), .val (.int c84), .val (.int c85), .unset, .unset, .unset, .unset, .unset, .unset, .unset, .unset, .unset, .unset, .unset, .unset]) (S' := [.int p3]) (pc' := 19) rfl ?_
    refine Goes.callS X 0 [] [] (D_ch l Z a0 h0 hw p3) (wd hw 0 rfl) (wd hw 1 rfl) (wd hw 2 rfl) (wd hw 3 rfl) pd_y_0 rfl (st := []) rfl rfl (G := []) rfl rfl ?_
    rintro _ _ ⟨c86, rfl, hc86, rfl⟩
    refine ⟨Or.inr (Or.inr fun _ q => Or.inr (Or.inr q)), ?_⟩
    refine Goes.run X [(.istore 9, 2), (.iload 4, 2)] (L' := #[.val (.int p0), .val (.int p1), .val (.int p2), .val (.int p3), .val (.int p4), .val (.int p5), .val (.int c83), .val (.int c84), .val (.int c85), .val (.int c86), .unset, .unset, .unset, .unset, .unset, .unset, .unset, .unset, .unset, .unset, .unset]) (S' := [.int p4]) (pc' := 26) rfl ?_
    refine Goes.callS X 0 [] [] (D_ch l Z a0 h0 hw p4) (wd hw 0 rfl) (wd hw 1 rfl) (wd hw 2 rfl) (wd hw 3 rfl) pd_y_0 rfl (st := []) rfl rfl (G := []) rfl rfl ?_
    rintro _ _ ⟨c87, rfl, hc87, rfl⟩
    refine ⟨Or.inr (Or.inr fun _ q => Or.inr (Or.inr q)), ?_⟩
    refine Goes.run X [(.istore 10, 2), (.iload 5, 2)] (L' := #[.val (.int p0), .val (.int p1), .val (.int p2), .val (.int p3), .val (.int p4), .val (.int p5), .val (.int c83), .val (.int c84), .val (.int c85), .val (.int c86), .val (.int c87), .unset, .unset, .unset, .unset, .unset, .unset, .unset, .unset, .unset, .unset]) (S' := [.int p5]) (pc' := 33) rfl ?_
    refine Goes.ldcI X (wd hw 4 rfl) ?_
    refine Goes.runS X [(.iand, 1), (.iconst 5, 1), (.irem, 1)] (S' := [.int ((p5 &&& (2147483647 : Int32)) % (5 : Int32))]) (pc' := 38) rfl ?_
    rw [e2]
    show Goes _ _ _ _ _ _ _ _ _ _ _ _ _ _ _ _ _ _ _ _ [] 0 0 (mkF m 38 #[.val (.int p0), .val (.int p1), .val (.int p2), .val (.int p3), .val (.int p4), .val (.int p5), .val (.int c83), .val (.int c84), .val (.int c85), .val (.int c86), .val (.int c87), .unset, .unset, .unset, .unset, .unset, .unset, .unset, .unset, .unset, .unset] [.int (2 : Int32)])
    refine Goes.run X [(.istore 11, 2)] (L' := #[.val (.int p0), .val (.int p1), .val (.int p2), .val (.int p3), .val (.int p4), .val (.int p5), .val (.int c83), .val (.int c84), .val (.int c85), .val (.int c86), .val (.int c87), .val (.int (2 : Int32)), .unset, .unset, .unset, .unset, .unset, .unset, .unset, .unset, .unset]) (S' := []) (pc' := 40) rfl ?_
    have id1 : ∀ c ∈ ([c83, c84, c85] : List Int32), own_id c = true := by intro c hc; simp only [List.mem_cons, List.not_mem_nil, or_false] at hc; rcases hc with rfl | rfl | rfl <;> assumption
    have id2 : ∀ c ∈ ([c87, c84, c85] : List Int32), own_id c = true := by intro c hc; simp only [List.mem_cons, List.not_mem_nil, or_false] at hc; rcases hc with rfl | rfl | rfl <;> assumption
    obtain ⟨L1, hL1⟩ : ∃ z, [c83, c84, c85] = z := ⟨_, rfl⟩
    obtain ⟨L2, hL2⟩ : ∃ z, [c87, c84, c85] = z := ⟨_, rfl⟩
    rw [hL1] at id1
    rw [hL2] at id2
    have n1 : L1.length = 3 := by rw [← hL1]; rfl
    have n2 : L2.length = 3 := by rw [← hL2]; rfl
    have heq : own_eq L1 L2 = own_eq [c83] [c87] := by rw [← hL1, ← hL2]; unfold own_eq; congr 1; simp
    refine Goes.new X _ (wd hw 5 rfl) (wd hw 6 rfl) (wd hw 7 rfl) (new_String hw) (fun a88 => ?_)
    refine Goes.runS X [(.dup, 1), (.iload 11, 2), (.iload 6, 2), (.iload 7, 2), (.iload 8, 2), (.iload 9, 2)] (S' := [.int c86, .int c85, .int c84, .int c83, .int (2 : Int32), .ref a88, .ref a88]) (pc' := 54) rfl ?_
    refine Goes.callS X 2 [] [0] (D_mk2 l Z a0 h0 hw c83 hc83 c84 hc84 c85 hc85 c86 hc86) (wd hw 8 rfl) (wd hw 9 rfl) (wd hw 2 rfl) (wd hw 10 rfl) pd_y_1 rfl (st := [.ref a88, .ref a88]) rfl rfl (G := [(a88, o_String .null (.int 0) (.int 0) (.int 0))]) rfl rfl ?_
    rintro _ _ ⟨b89, rfl, rfl⟩
    refine ⟨Or.inl rfl, ?_⟩
    rw [hL1]
    show Goes _ _ _ _ _ _ _ _ _ _ _ _ _ _ _ _ _ _ _ _ [(b89, oCs L1), (a88, o_String .null (.int 0) (.int 0) (.int 0))] 2 7 (mkF m 57 #[.val (.int p0), .val (.int p1), .val (.int p2), .val (.int p3), .val (.int p4), .val (.int p5), .val (.int c83), .val (.int c84), .val (.int c85), .val (.int c86), .val (.int c87), .val (.int (2 : Int32)), .unset, .unset, .unset, .unset, .unset, .unset, .unset, .unset, .unset] [.ref b89, .ref a88, .ref a88])
    refine Goes.callN X 1 [1, 0] [] (D_sc l Z a0 h0 hw cs hCS hcs a88 b89 L1 id1 3 n1 (by decide) (by decide)) rfl (wd hw 12 rfl) (wd hw 13 rfl) (wd hw 7 rfl) (wd hw 14 rfl) pd_y_2 rfl (st := [.ref a88]) rfl rfl (G := []) rfl rfl ?_
    rintro _ _ ⟨t90, rfl, rfl⟩
    refine ⟨Or.inl rfl, ?_⟩
    refine Goes.run X [(.astore 12, 2)] (L' := #[.val (.int p0), .val (.int p1), .val (.int p2), .val (.int p3), .val (.int p4), .val (.int p5), .val (.int c83), .val (.int c84), .val (.int c85), .val (.int c86), .val (.int c87), .val (.int (2 : Int32)), .val (.ref a88), .unset, .unset, .unset, .unset, .unset, .unset, .unset, .unset]) (S' := []) (pc' := 62) rfl ?_
    refine Goes.new X _ (wd hw 5 rfl) (wd hw 6 rfl) (wd hw 7 rfl) (new_String hw) (fun a91 => ?_)
    refine Goes.runS X [(.dup, 1), (.iload 11, 2), (.iload 10, 2), (.iload 7, 2), (.iload 8, 2), (.iload 9, 2)] (S' := [.int c86, .int c85, .int c84, .int c87, .int (2 : Int32), .ref a91, .ref a91]) (pc' := 76) rfl ?_
    refine Goes.callS X 2 [] [0, 1, 2] (D_mk2 l Z a0 h0 hw c87 hc87 c84 hc84 c85 hc85 c86 hc86) (wd hw 8 rfl) (wd hw 9 rfl) (wd hw 2 rfl) (wd hw 10 rfl) pd_y_1 rfl (st := [.ref a91, .ref a91]) rfl rfl (G := [(a88, o_String (.ref t90) (.int 0) (.int 0) (.int 0)), (t90, oBs (L1.map own_by)), (a91, o_String .null (.int 0) (.int 0) (.int 0))]) rfl rfl ?_
    rintro _ _ ⟨b92, rfl, rfl⟩
    refine ⟨Or.inl rfl, ?_⟩
    rw [hL2]
    show Goes _ _ _ _ _ _ _ _ _ _ _ _ _ _ _ _ _ _ _ _ [(b92, oCs L2), (a88, o_String (.ref t90) (.int 0) (.int 0) (.int 0)), (t90, oBs (L1.map own_by)), (a91, o_String .null (.int 0) (.int 0) (.int 0))] 5 46 (mkF m 79 #[.val (.int p0), .val (.int p1), .val (.int p2), .val (.int p3), .val (.int p4), .val (.int p5), .val (.int c83), .val (.int c84), .val (.int c85), .val (.int c86), .val (.int c87), .val (.int (2 : Int32)), .val (.ref a88), .unset, .unset, .unset, .unset, .unset, .unset, .unset, .unset] [.ref b92, .ref a91, .ref a91])
    refine Goes.callN X 1 [3, 0] [1, 2] (D_sc l Z a0 h0 hw cs hCS hcs a91 b92 L2 id2 3 n2 (by decide) (by decide)) rfl (wd hw 12 rfl) (wd hw 13 rfl) (wd hw 7 rfl) (wd hw 14 rfl) pd_y_2 rfl (st := [.ref a91]) rfl rfl (G := [(a88, o_String (.ref t90) (.int 0) (.int 0) (.int 0)), (t90, oBs (L1.map own_by))]) rfl rfl ?_
    rintro _ _ ⟨t93, rfl, rfl⟩
    refine ⟨Or.inl rfl, ?_⟩
    refine Goes.run X [(.astore 13, 2)] (L' := #[.val (.int p0), .val (.int p1), .val (.int p2), .val (.int p3), .val (.int p4), .val (.int p5), .val (.int c83), .val (.int c84), .val (.int c85), .val (.int c86), .val (.int c87), .val (.int (2 : Int32)), .val (.ref a88), .val (.ref a91), .unset, .unset, .unset, .unset, .unset, .unset, .unset]) (S' := []) (pc' := 84) rfl ?_
    refine Goes.runS X [(.aload 12, 2)] (S' := [.ref a88]) (pc' := 86) rfl ?_
    refine Goes.callSW X 0 [2, 3] [0, 1] (D_of l Z a0 h0 hw cs hCS hcs sio hSIO hsio a88 t90 (.int 0) (.int 0) L1 id1 3 n1 (by decide) (by decide)) (wd hw 38 rfl) (wd hw 39 rfl) (wd hw 40 rfl) (wd hw 41 rfl) pd_y_7 rfl (st := []) rfl rfl (G := [(a91, o_String (.ref t93) (.int 0) (.int 0) (.int 0)), (t93, oBs (L2.map own_by))]) rfl rfl ?_
    rintro _ _ vm0 k0 ⟨o94, rfl, rfl⟩ X
    refine ⟨Or.inl rfl, ?_⟩
    refine Goes.run X [(.astore 14, 2)] (L' := #[.val (.int p0), .val (.int p1), .val (.int p2), .val (.int p3), .val (.int p4), .val (.int p5), .val (.int c83), .val (.int c84), .val (.int c85), .val (.int c86), .val (.int c87), .val (.int (2 : Int32)), .val (.ref a88), .val (.ref a91), .val (.ref o94), .unset, .unset, .unset, .unset, .unset, .unset]) (S' := []) (pc' := 91) rfl ?_
    refine Goes.runS X [(.aload 13, 2)] (S' := [.ref a91]) (pc' := 93) rfl ?_
    refine Goes.callSW X 0 [3, 4] [0, 1, 2] (D_of l Z a0 h0 hw cs hCS hcs sio hSIO hsio a91 t93 (.int 0) (.int 0) L2 id2 3 n2 (by decide) (by decide)) (wd hw 38 rfl) (wd hw 39 rfl) (wd hw 40 rfl) (wd hw 41 rfl) pd_y_7 rfl (st := []) rfl rfl (G := [(o94, o_Acc (.ref a88)), (a88, o_String (.ref t90) (.int 0) (.int 0) (.int 0)), (t90, oBs (L1.map own_by))]) rfl rfl ?_
    rintro _ _ vm0 k0 ⟨o95, rfl, rfl⟩ X
    refine ⟨Or.inl rfl, ?_⟩
    refine Goes.run X [(.astore 15, 2)] (L' := #[.val (.int p0), .val (.int p1), .val (.int p2), .val (.int p3), .val (.int p4), .val (.int p5), .val (.int c83), .val (.int c84), .val (.int c85), .val (.int c86), .val (.int c87), .val (.int (2 : Int32)), .val (.ref a88), .val (.ref a91), .val (.ref o94), .val (.ref o95), .unset, .unset, .unset, .unset, .unset]) (S' := []) (pc' := 98) rfl ?_
    refine Goes.runS X [(.iload 6, 2), (.iload 10, 2)] (S' := [.int c87, .int c83]) (pc' := 102) rfl ?_
    refine Goes.if2 X (pc' := 109) (o := 7) (cd := .ne) (fun q96 => ?_) (fun q96 => ?_)
    · have h97 : ¬ c83 = c87 := by simpa [if_icmp.holds] using q96
      have hv : own_eq L1 L2 = 0 := by rw [heq, own_eq, if_neg (by simp [h97])]
      refine Goes.run X [(.iconst 0, 1), (.istore 16, 2), (.aload 14, 2)] (L' := #[.val (.int p0), .val (.int p1), .val (.int p2), .val (.int p3), .val (.int p4), .val (.int p5), .val (.int c83), .val (.int c84), .val (.int c85), .val (.int c86), .val (.int c87), .val (.int (2 : Int32)), .val (.ref a88), .val (.ref a91), .val (.ref o94), .val (.ref o95), .val (.int (0 : Int32)), .unset, .unset, .unset, .unset]) (S' := [.ref o94]) (pc' := 114) rfl ?_
      refine Goes.callV X 0 3 [3] [0, 1, 2, 4, 5] rfl (D_tos l Z a0 h0 hw o94 a88) (wd hw 97 rfl) (wd hw 98 rfl) (wd hw 100 rfl) (wd hw 99 rfl) (own_nf X (wd hw 100 rfl)) (wd hw 40 rfl) (wd hw 101 rfl) pd_y_19 rfl (st := []) rfl rfl (G := [(o95, o_Acc (.ref a91)), (a91, o_String (.ref t93) (.int 0) (.int 0) (.int 0)), (t93, oBs (L2.map own_by)), (a88, o_String (.ref t90) (.int 0) (.int 0) (.int 0)), (t90, oBs (L1.map own_by))]) rfl rfl ?_
      rintro _ _ ⟨rfl, rfl⟩
      refine ⟨Or.inr (Or.inr fun _ q => Or.inr (Or.inr q)), ?_⟩
      refine Goes.runS X [(.aload 12, 2)] (S' := [.ref a88, .ref a88]) (pc' := 119) rfl ?_
      refine Goes.callV X 0 4 [] [0, 1, 2, 3, 4, 5] rfl (D_seq1 l Z a0 h0 hw a88) (wd hw 102 rfl) (wd hw 103 rfl) (wd hw 105 rfl) (wd hw 104 rfl) (own_nf X (wd hw 105 rfl)) (wd hw 7 rfl) (wd hw 106 rfl) pd_y_20 rfl (st := []) rfl rfl (G := [(o94, o_Acc (.ref a88)), (o95, o_Acc (.ref a91)), (a91, o_String (.ref t93) (.int 0) (.int 0) (.int 0)), (t93, oBs (L2.map own_by)), (a88, o_String (.ref t90) (.int 0) (.int 0) (.int 0)), (t90, oBs (L1.map own_by))]) rfl rfl ?_
      rintro _ _ ⟨rfl, rfl⟩
      refine ⟨Or.inr (Or.inr fun _ q => Or.inr (Or.inr q)), ?_⟩
      refine Goes.run X [(.istore 17, 2), (.aload 15, 2)] (L' := #[.val (.int p0), .val (.int p1), .val (.int p2), .val (.int p3), .val (.int p4), .val (.int p5), .val (.int c83), .val (.int c84), .val (.int c85), .val (.int c86), .val (.int c87), .val (.int (2 : Int32)), .val (.ref a88), .val (.ref a91), .val (.ref o94), .val (.ref o95), .val (.int (0 : Int32)), .val (.int (1 : Int32)), .unset, .unset, .unset]) (S' := [.ref o95]) (pc' := 126) rfl ?_
      refine Goes.callV X 0 1 [1] [0, 2, 3, 4, 5] rfl (D_tos l Z a0 h0 hw o95 a91) (wd hw 97 rfl) (wd hw 98 rfl) (wd hw 100 rfl) (wd hw 99 rfl) (own_nf X (wd hw 100 rfl)) (wd hw 40 rfl) (wd hw 101 rfl) pd_y_19 rfl (st := []) rfl rfl (G := [(o94, o_Acc (.ref a88)), (a91, o_String (.ref t93) (.int 0) (.int 0) (.int 0)), (t93, oBs (L2.map own_by)), (a88, o_String (.ref t90) (.int 0) (.int 0) (.int 0)), (t90, oBs (L1.map own_by))]) rfl rfl ?_
      rintro _ _ ⟨rfl, rfl⟩
      refine ⟨Or.inr (Or.inr fun _ q => Or.inr (Or.inr q)), ?_⟩
      refine Goes.runS X [(.aload 13, 2)] (S' := [.ref a91, .ref a91]) (pc' := 131) rfl ?_
      refine Goes.callV X 0 2 [] [0, 1, 2, 3, 4, 5] rfl (D_seq1 l Z a0 h0 hw a91) (wd hw 102 rfl) (wd hw 103 rfl) (wd hw 105 rfl) (wd hw 104 rfl) (own_nf X (wd hw 105 rfl)) (wd hw 7 rfl) (wd hw 106 rfl) pd_y_20 rfl (st := []) rfl rfl (G := [(o95, o_Acc (.ref a91)), (o94, o_Acc (.ref a88)), (a91, o_String (.ref t93) (.int 0) (.int 0) (.int 0)), (t93, oBs (L2.map own_by)), (a88, o_String (.ref t90) (.int 0) (.int 0) (.int 0)), (t90, oBs (L1.map own_by))]) rfl rfl ?_
      rintro _ _ ⟨rfl, rfl⟩
      refine ⟨Or.inr (Or.inr fun _ q => Or.inr (Or.inr q)), ?_⟩
      refine Goes.run X [(.istore 18, 2), (.aload 14, 2), (.aload 15, 2)] (L' := #[.val (.int p0), .val (.int p1), .val (.int p2), .val (.int p3), .val (.int p4), .val (.int p5), .val (.int c83), .val (.int c84), .val (.int c85), .val (.int c86), .val (.int c87), .val (.int (2 : Int32)), .val (.ref a88), .val (.ref a91), .val (.ref o94), .val (.ref o95), .val (.int (0 : Int32)), .val (.int (1 : Int32)), .val (.int (1 : Int32)), .unset, .unset]) (S' := [.ref o95, .ref o94]) (pc' := 140) rfl ?_
      refine Goes.callV X 0 1 [1, 0, 4, 2, 5, 3] [] rfl (D_aeq l Z a0 h0 hw cs hCS hcs o94 o95 a88 t90 a91 t93 (.int 0) (.int 0) (.int 0) (.int 0) L1 L2 id1 id2 3 n1 n2 (by decide) (by decide)) (wd hw 107 rfl) (wd hw 108 rfl) (wd hw 110 rfl) (wd hw 109 rfl) (own_nf X (wd hw 110 rfl)) (wd hw 40 rfl) (wd hw 111 rfl) pd_y_21 rfl (st := []) rfl rfl (G := []) rfl rfl ?_
      rintro _ _ ⟨rfl, rfl⟩
      refine ⟨Or.inr (Or.inr fun _ q => Or.inr (Or.inr q)), ?_⟩
      rw [hv]
      show Goes _ _ _ _ _ _ _ _ _ _ _ _ _ _ _ _ _ _ _ _ [(o94, o_Acc (.ref a88)), (o95, o_Acc (.ref a91)), (a88, o_String (.ref t90) (.int 0) (.int 0) (.int 0)), (a91, o_String (.ref t93) (.int 0) (.int 0) (.int 0)), (t90, oBs (L1.map own_by)), (t93, oBs (L2.map own_by))] 12 120 (mkF m 143 #[.val (.int p0), .val (.int p1), .val (.int p2), .val (.int p3), .val (.int p4), .val (.int p5), .val (.int c83), .val (.int c84), .val (.int c85), .val (.int c86), .val (.int c87), .val (.int (2 : Int32)), .val (.ref a88), .val (.ref a91), .val (.ref o94), .val (.ref o95), .val (.int (0 : Int32)), .val (.int (1 : Int32)), .val (.int (1 : Int32)), .unset, .unset] [.int (0 : Int32)])
      refine Goes.runS X [(.iload 16, 2)] (S' := [.int (0 : Int32), .int (0 : Int32)]) (pc' := 145) rfl ?_
      refine Goes.if2 X (pc' := 152) (o := 7) (cd := .ne) (fun q => absurd q (by decide)) (fun _ => ?_)
      refine Goes.runS X [(.iconst 1, 1)] (S' := [.int (1 : Int32)]) (pc' := 149) rfl ?_
      refine Goes.goto X (o := 4) (pc' := 153) ?_
      refine Goes.run X [(.istore 19, 2), (.iload 16, 2)] (L' := #[.val (.int p0), .val (.int p1), .val (.int p2), .val (.int p3), .val (.int p4), .val (.int p5), .val (.int c83), .val (.int c84), .val (.int c85), .val (.int c86), .val (.int c87), .val (.int (2 : Int32)), .val (.ref a88), .val (.ref a91), .val (.ref o94), .val (.ref o95), .val (.int (0 : Int32)), .val (.int (1 : Int32)), .val (.int (1 : Int32)), .val (.int (1 : Int32)), .unset]) (S' := [.int (0 : Int32)]) (pc' := 157) rfl ?_
      refine Goes.if1 X (pc' := 173) (o := 16) (cd := .eq) (fun _ => ?_) (fun q => absurd q (by decide))
      refine Goes.runS X [(.iconst 1, 1)] (S' := [.int (1 : Int32)]) (pc' := 174) rfl ?_
      refine Goes.goto X (o := 4) (pc' := 178) ?_
      refine Goes.run X [(.istore 20, 2), (.iload 17, 2)] (L' := #[.val (.int p0), .val (.int p1), .val (.int p2), .val (.int p3), .val (.int p4), .val (.int p5), .val (.int c83), .val (.int c84), .val (.int c85), .val (.int c86), .val (.int c87), .val (.int (2 : Int32)), .val (.ref a88), .val (.ref a91), .val (.ref o94), .val (.ref o95), .val (.int (0 : Int32)), .val (.int (1 : Int32)), .val (.int (1 : Int32)), .val (.int (1 : Int32)), .val (.int (1 : Int32))]) (S' := [.int (1 : Int32)]) (pc' := 182) rfl ?_
      refine Goes.if1 X (pc' := 204) (o := 22) (cd := .eq) (fun q => absurd q (by decide)) (fun _ => ?_)
      refine Goes.runS X [(.iload 18, 2)] (S' := [.int (1 : Int32)]) (pc' := 187) rfl ?_
      refine Goes.if1 X (pc' := 204) (o := 17) (cd := .eq) (fun q => absurd q (by decide)) (fun _ => ?_)
      refine Goes.runS X [(.iload 19, 2)] (S' := [.int (1 : Int32)]) (pc' := 192) rfl ?_
      refine Goes.if1 X (pc' := 204) (o := 12) (cd := .eq) (fun q => absurd q (by decide)) (fun _ => ?_)
      refine Goes.runS X [(.iload 20, 2)] (S' := [.int (1 : Int32)]) (pc' := 197) rfl ?_
      refine Goes.if1 X (pc' := 204) (o := 7) (cd := .eq) (fun q => absurd q (by decide)) (fun _ => ?_)
      refine Goes.runS X [(.iconst 1, 1)] (S' := [.int (1 : Int32)]) (pc' := 201) rfl ?_
      refine Goes.goto X (o := 4) (pc' := 205) ?_
      refine Goes.retI X (by simp) rfl ?_
      exact rfl
    · have h98 : c83 = c87 := by simpa [if_icmp.holds] using q96
      have hv : own_eq L1 L2 = 1 := by rw [heq, own_eq, if_pos (by simp [h98])]
      refine Goes.runS X [(.iconst 1, 1)] (S' := [.int (1 : Int32)]) (pc' := 106) rfl ?_
      refine Goes.goto X (o := 4) (pc' := 110) ?_
      refine Goes.run X [(.istore 16, 2), (.aload 14, 2)] (L' := #[.val (.int p0), .val (.int p1), .val (.int p2), .val (.int p3), .val (.int p4), .val (.int p5), .val (.int c83), .val (.int c84), .val (.int c85), .val (.int c86), .val (.int c87), .val (.int (2 : Int32)), .val (.ref a88), .val (.ref a91), .val (.ref o94), .val (.ref o95), .val (.int (1 : Int32)), .unset, .unset, .unset, .unset]) (S' := [.ref o94]) (pc' := 114) rfl ?_
      refine Goes.callV X 0 3 [3] [0, 1, 2, 4, 5] rfl (D_tos l Z a0 h0 hw o94 a88) (wd hw 97 rfl) (wd hw 98 rfl) (wd hw 100 rfl) (wd hw 99 rfl) (own_nf X (wd hw 100 rfl)) (wd hw 40 rfl) (wd hw 101 rfl) pd_y_19 rfl (st := []) rfl rfl (G := [(o95, o_Acc (.ref a91)), (a91, o_String (.ref t93) (.int 0) (.int 0) (.int 0)), (t93, oBs (L2.map own_by)), (a88, o_String (.ref t90) (.int 0) (.int 0) (.int 0)), (t90, oBs (L1.map own_by))]) rfl rfl ?_
      rintro _ _ ⟨rfl, rfl⟩
      refine ⟨Or.inr (Or.inr fun _ q => Or.inr (Or.inr q)), ?_⟩
      refine Goes.runS X [(.aload 12, 2)] (S' := [.ref a88, .ref a88]) (pc' := 119) rfl ?_
      refine Goes.callV X 0 4 [] [0, 1, 2, 3, 4, 5] rfl (D_seq1 l Z a0 h0 hw a88) (wd hw 102 rfl) (wd hw 103 rfl) (wd hw 105 rfl) (wd hw 104 rfl) (own_nf X (wd hw 105 rfl)) (wd hw 7 rfl) (wd hw 106 rfl) pd_y_20 rfl (st := []) rfl rfl (G := [(o94, o_Acc (.ref a88)), (o95, o_Acc (.ref a91)), (a91, o_String (.ref t93) (.int 0) (.int 0) (.int 0)), (t93, oBs (L2.map own_by)), (a88, o_String (.ref t90) (.int 0) (.int 0) (.int 0)), (t90, oBs (L1.map own_by))]) rfl rfl ?_
      rintro _ _ ⟨rfl, rfl⟩
      refine ⟨Or.inr (Or.inr fun _ q => Or.inr (Or.inr q)), ?_⟩
      refine Goes.run X [(.istore 17, 2), (.aload 15, 2)] (L' := #[.val (.int p0), .val (.int p1), .val (.int p2), .val (.int p3), .val (.int p4), .val (.int p5), .val (.int c83), .val (.int c84), .val (.int c85), .val (.int c86), .val (.int c87), .val (.int (2 : Int32)), .val (.ref a88), .val (.ref a91), .val (.ref o94), .val (.ref o95), .val (.int (1 : Int32)), .val (.int (1 : Int32)), .unset, .unset, .unset]) (S' := [.ref o95]) (pc' := 126) rfl ?_
      refine Goes.callV X 0 1 [1] [0, 2, 3, 4, 5] rfl (D_tos l Z a0 h0 hw o95 a91) (wd hw 97 rfl) (wd hw 98 rfl) (wd hw 100 rfl) (wd hw 99 rfl) (own_nf X (wd hw 100 rfl)) (wd hw 40 rfl) (wd hw 101 rfl) pd_y_19 rfl (st := []) rfl rfl (G := [(o94, o_Acc (.ref a88)), (a91, o_String (.ref t93) (.int 0) (.int 0) (.int 0)), (t93, oBs (L2.map own_by)), (a88, o_String (.ref t90) (.int 0) (.int 0) (.int 0)), (t90, oBs (L1.map own_by))]) rfl rfl ?_
      rintro _ _ ⟨rfl, rfl⟩
      refine ⟨Or.inr (Or.inr fun _ q => Or.inr (Or.inr q)), ?_⟩
      refine Goes.runS X [(.aload 13, 2)] (S' := [.ref a91, .ref a91]) (pc' := 131) rfl ?_
      refine Goes.callV X 0 2 [] [0, 1, 2, 3, 4, 5] rfl (D_seq1 l Z a0 h0 hw a91) (wd hw 102 rfl) (wd hw 103 rfl) (wd hw 105 rfl) (wd hw 104 rfl) (own_nf X (wd hw 105 rfl)) (wd hw 7 rfl) (wd hw 106 rfl) pd_y_20 rfl (st := []) rfl rfl (G := [(o95, o_Acc (.ref a91)), (o94, o_Acc (.ref a88)), (a91, o_String (.ref t93) (.int 0) (.int 0) (.int 0)), (t93, oBs (L2.map own_by)), (a88, o_String (.ref t90) (.int 0) (.int 0) (.int 0)), (t90, oBs (L1.map own_by))]) rfl rfl ?_
      rintro _ _ ⟨rfl, rfl⟩
      refine ⟨Or.inr (Or.inr fun _ q => Or.inr (Or.inr q)), ?_⟩
      refine Goes.run X [(.istore 18, 2), (.aload 14, 2), (.aload 15, 2)] (L' := #[.val (.int p0), .val (.int p1), .val (.int p2), .val (.int p3), .val (.int p4), .val (.int p5), .val (.int c83), .val (.int c84), .val (.int c85), .val (.int c86), .val (.int c87), .val (.int (2 : Int32)), .val (.ref a88), .val (.ref a91), .val (.ref o94), .val (.ref o95), .val (.int (1 : Int32)), .val (.int (1 : Int32)), .val (.int (1 : Int32)), .unset, .unset]) (S' := [.ref o95, .ref o94]) (pc' := 140) rfl ?_
      refine Goes.callV X 0 1 [1, 0, 4, 2, 5, 3] [] rfl (D_aeq l Z a0 h0 hw cs hCS hcs o94 o95 a88 t90 a91 t93 (.int 0) (.int 0) (.int 0) (.int 0) L1 L2 id1 id2 3 n1 n2 (by decide) (by decide)) (wd hw 107 rfl) (wd hw 108 rfl) (wd hw 110 rfl) (wd hw 109 rfl) (own_nf X (wd hw 110 rfl)) (wd hw 40 rfl) (wd hw 111 rfl) pd_y_21 rfl (st := []) rfl rfl (G := []) rfl rfl ?_
      rintro _ _ ⟨rfl, rfl⟩
      refine ⟨Or.inr (Or.inr fun _ q => Or.inr (Or.inr q)), ?_⟩
      rw [hv]
      show Goes _ _ _ _ _ _ _ _ _ _ _ _ _ _ _ _ _ _ _ _ [(o94, o_Acc (.ref a88)), (o95, o_Acc (.ref a91)), (a88, o_String (.ref t90) (.int 0) (.int 0) (.int 0)), (a91, o_String (.ref t93) (.int 0) (.int 0) (.int 0)), (t90, oBs (L1.map own_by)), (t93, oBs (L2.map own_by))] 12 120 (mkF m 143 #[.val (.int p0), .val (.int p1), .val (.int p2), .val (.int p3), .val (.int p4), .val (.int p5), .val (.int c83), .val (.int c84), .val (.int c85), .val (.int c86), .val (.int c87), .val (.int (2 : Int32)), .val (.ref a88), .val (.ref a91), .val (.ref o94), .val (.ref o95), .val (.int (1 : Int32)), .val (.int (1 : Int32)), .val (.int (1 : Int32)), .unset, .unset] [.int (1 : Int32)])
      refine Goes.runS X [(.iload 16, 2)] (S' := [.int (1 : Int32), .int (1 : Int32)]) (pc' := 145) rfl ?_
      refine Goes.if2 X (pc' := 152) (o := 7) (cd := .ne) (fun q => absurd q (by decide)) (fun _ => ?_)
      refine Goes.runS X [(.iconst 1, 1)] (S' := [.int (1 : Int32)]) (pc' := 149) rfl ?_
      refine Goes.goto X (o := 4) (pc' := 153) ?_
      refine Goes.run X [(.istore 19, 2), (.iload 16, 2)] (L' := #[.val (.int p0), .val (.int p1), .val (.int p2), .val (.int p3), .val (.int p4), .val (.int p5), .val (.int c83), .val (.int c84), .val (.int c85), .val (.int c86), .val (.int c87), .val (.int (2 : Int32)), .val (.ref a88), .val (.ref a91), .val (.ref o94), .val (.ref o95), .val (.int (1 : Int32)), .val (.int (1 : Int32)), .val (.int (1 : Int32)), .val (.int (1 : Int32)), .unset]) (S' := [.int (1 : Int32)]) (pc' := 157) rfl ?_
      refine Goes.if1 X (pc' := 173) (o := 16) (cd := .eq) (fun q => absurd q (by decide)) (fun _ => ?_)
      refine Goes.runS X [(.aload 14, 2)] (S' := [.ref o94]) (pc' := 162) rfl ?_
      have hLL : L2 = L1 := by rw [← hL1, ← hL2, h98]
      refine Goes.callV X 0 0 [0, 2, 4] [1, 3, 5] rfl (D_ahc l Z a0 h0 hw cs hCS hcs o94 a88 t90 L1 id1 3 n1 (by decide) (by decide)) (wd hw 118 rfl) (wd hw 119 rfl) (wd hw 121 rfl) (wd hw 120 rfl) (own_nf X (wd hw 121 rfl)) (wd hw 40 rfl) (wd hw 122 rfl) pd_y_23 rfl (st := []) rfl rfl (G := [(o95, o_Acc (.ref a91)), (a91, o_String (.ref t93) (.int 0) (.int 0) (.int 0)), (t93, oBs (L2.map own_by))]) rfl rfl ?_
      rintro _ _ ⟨x99, z100, rfl, rfl⟩
      refine ⟨Or.inl rfl, ?_⟩
      refine Goes.runS X [(.aload 15, 2)] (S' := [.ref o95, .int (own_h L1 3)]) (pc' := 167) rfl ?_
      refine Goes.callV X 1 3 [3, 4, 5] [0, 1, 2] rfl (D_ahc l Z a0 h0 hw cs hCS hcs o95 a91 t93 L2 id2 3 n2 (by decide) (by decide)) (wd hw 118 rfl) (wd hw 119 rfl) (wd hw 121 rfl) (wd hw 120 rfl) (own_nf X (wd hw 121 rfl)) (wd hw 40 rfl) (wd hw 122 rfl) pd_y_23 rfl (st := [.int (own_h L1 3)]) rfl rfl (G := [(o94, o_Acc (.ref a88)), (a88, o_String (.ref t90) (.int 0) (x99) (z100)), (t90, oBs (L1.map own_by))]) rfl rfl ?_
      rintro _ _ ⟨x101, z102, rfl, rfl⟩
      refine ⟨Or.inl rfl, ?_⟩
      refine Goes.if2 X (pc' := 177) (o := 7) (cd := .ne) (fun q => absurd (q.symm.trans (by rw [hLL]; simp [if_icmp.holds] : if_icmp.holds .ne (own_h L1 3) (own_h L2 3) = false)) (by decide)) (fun _ => ?_)
      refine Goes.runS X [(.iconst 1, 1)] (S' := [.int (1 : Int32)]) (pc' := 174) rfl ?_
      refine Goes.goto X (o := 4) (pc' := 178) ?_
      refine Goes.run X [(.istore 20, 2), (.iload 17, 2)] (L' := #[.val (.int p0), .val (.int p1), .val (.int p2), .val (.int p3), .val (.int p4), .val (.int p5), .val (.int c83), .val (.int c84), .val (.int c85), .val (.int c86), .val (.int c87), .val (.int (2 : Int32)), .val (.ref a88), .val (.ref a91), .val (.ref o94), .val (.ref o95), .val (.int (1 : Int32)), .val (.int (1 : Int32)), .val (.int (1 : Int32)), .val (.int (1 : Int32)), .val (.int (1 : Int32))]) (S' := [.int (1 : Int32)]) (pc' := 182) rfl ?_
      refine Goes.if1 X (pc' := 204) (o := 22) (cd := .eq) (fun q => absurd q (by decide)) (fun _ => ?_)
      refine Goes.runS X [(.iload 18, 2)] (S' := [.int (1 : Int32)]) (pc' := 187) rfl ?_
      refine Goes.if1 X (pc' := 204) (o := 17) (cd := .eq) (fun q => absurd q (by decide)) (fun _ => ?_)
      refine Goes.runS X [(.iload 19, 2)] (S' := [.int (1 : Int32)]) (pc' := 192) rfl ?_
      refine Goes.if1 X (pc' := 204) (o := 12) (cd := .eq) (fun q => absurd q (by decide)) (fun _ => ?_)
      refine Goes.runS X [(.iload 20, 2)] (S' := [.int (1 : Int32)]) (pc' := 197) rfl ?_
      refine Goes.if1 X (pc' := 204) (o := 7) (cd := .eq) (fun q => absurd q (by decide)) (fun _ => ?_)
      refine Goes.runS X [(.iconst 1, 1)] (S' := [.int (1 : Int32)]) (pc' := 201) rfl ?_
      refine Goes.goto X (o := 4) (pc' := 205) ?_
      refine Goes.retI X (by simp) rfl ?_
      exact rfl
  · refine Goes.runS X [(.iload_n 0, 1)] (S' := [.int p0]) (pc' := 1) rfl ?_
    refine Goes.callS X 0 [] [] (D_ch l Z a0 h0 hw p0) (wd hw 0 rfl) (wd hw 1 rfl) (wd hw 2 rfl) (wd hw 3 rfl) pd_y_0 rfl (st := []) rfl rfl (G := []) rfl rfl ?_
    rintro _ _ ⟨c103, rfl, hc103, rfl⟩
    refine ⟨Or.inr (Or.inr fun _ q => Or.inr (Or.inr q)), ?_⟩
    refine Goes.run X [(.istore 6, 2), (.iload_n 1, 1)] (L' := #[.val (.int p0), .val (.int p1), .val (.int p2), .val (.int p3), .val (.int p4), .val (.int p5), .val (.int c103), .unset, .unset, .unset, .unset, .unset, .unset, .unset, .unset, .unset, .unset, .unset, .unset, .unset, .unset]) (S' := [.int p1]) (pc' := 7) rfl ?_
    refine Goes.callS X 0 [] [] (D_ch l Z a0 h0 hw p1) (wd hw 0 rfl) (wd hw 1 rfl) (wd hw 2 rfl) (wd hw 3 rfl) pd_y_0 rfl (st := []) rfl rfl (G := []) rfl rfl ?_
    rintro _ _ ⟨c104, rfl, hc104, rfl⟩
    refine ⟨Or.inr (Or.inr fun _ q => Or.inr (Or.inr q)), ?_⟩
    refine Goes.run X [(.istore 7, 2), (.iload_n 2, 1)] (L' := #[.val (.int p0), .val (.int p1), .val (.int p2), .val (.int p3), .val (.int p4), .val (.int p5), .val (.int c103), .val (.int c104), .unset, .unset, .unset, .unset, .unset, .unset, .unset, .unset, .unset, .unset, .unset, .unset, .unset]) (S' := [.int p2]) (pc' := 13) rfl ?_
    refine Goes.callS X 0 [] [] (D_ch l Z a0 h0 hw p2) (wd hw 0 rfl) (wd hw 1 rfl) (wd hw 2 rfl) (wd hw 3 rfl) pd_y_0 rfl (st := []) rfl rfl (G := []) rfl rfl ?_
    rintro _ _ ⟨c105, rfl, hc105, rfl⟩
    refine ⟨Or.inr (Or.inr fun _ q => Or.inr (Or.inr q)), ?_⟩
    refine Goes.run X [(.istore 8, 2), (.iload_n 3, 1)] (L' := #[.val (.int p0), .val (.int p1), .val (.int p2), .val (.int p3), .val (.int p4), .val (.int p5), .val (.int c103), .val (.int c104), .val (.int c105), .unset, .unset, .unset, .unset, .unset, .unset, .unset, .unset, .unset, .unset, .unset, .unset]) (S' := [.int p3]) (pc' := 19) rfl ?_
    refine Goes.callS X 0 [] [] (D_ch l Z a0 h0 hw p3) (wd hw 0 rfl) (wd hw 1 rfl) (wd hw 2 rfl) (wd hw 3 rfl) pd_y_0 rfl (st := []) rfl rfl (G := []) rfl rfl ?_
    rintro _ _ ⟨c106, rfl, hc106, rfl⟩
    refine ⟨Or.inr (Or.inr fun _ q => Or.inr (Or.inr q)), ?_⟩
    refine Goes.run X [(.istore 9, 2), (.iload 4, 2)] (L' := #[.val (.int p0), .val (.int p1), .val (.int p2), .val (.int p3), .val (.int p4), .val (.int p5), .val (.int c103), .val (.int c104), .val (.int c105), .val (.int c106), .unset, .unset, .unset, .unset, .unset, .unset, .unset, .unset, .unset, .unset, .unset]) (S' := [.int p4]) (pc' := 26) rfl ?_
    refine Goes.callS X 0 [] [] (D_ch l Z a0 h0 hw p4) (wd hw 0 rfl) (wd hw 1 rfl) (wd hw 2 rfl) (wd hw 3 rfl) pd_y_0 rfl (st := []) rfl rfl (G := []) rfl rfl ?_
    rintro _ _ ⟨c107, rfl, hc107, rfl⟩
    refine ⟨Or.inr (Or.inr fun _ q => Or.inr (Or.inr q)), ?_⟩
    refine Goes.run X [(.istore 10, 2), (.iload 5, 2)] (L' := #[.val (.int p0), .val (.int p1), .val (.int p2), .val (.int p3), .val (.int p4), .val (.int p5), .val (.int c103), .val (.int c104), .val (.int c105), .val (.int c106), .val (.int c107), .unset, .unset, .unset, .unset, .unset, .unset, .unset, .unset, .unset, .unset]) (S' := [.int p5]) (pc' := 33) rfl ?_
    refine Goes.ldcI X (wd hw 4 rfl) ?_
    refine Goes.runS X [(.iand, 1), (.iconst 5, 1), (.irem, 1)] (S' := [.int ((p5 &&& (2147483647 : Int32)) % (5 : Int32))]) (pc' := 38) rfl ?_
    rw [e3]
    show Goes _ _ _ _ _ _ _ _ _ _ _ _ _ _ _ _ _ _ _ _ [] 0 0 (mkF m 38 #[.val (.int p0), .val (.int p1), .val (.int p2), .val (.int p3), .val (.int p4), .val (.int p5), .val (.int c103), .val (.int c104), .val (.int c105), .val (.int c106), .val (.int c107), .unset, .unset, .unset, .unset, .unset, .unset, .unset, .unset, .unset, .unset] [.int (3 : Int32)])
    refine Goes.run X [(.istore 11, 2)] (L' := #[.val (.int p0), .val (.int p1), .val (.int p2), .val (.int p3), .val (.int p4), .val (.int p5), .val (.int c103), .val (.int c104), .val (.int c105), .val (.int c106), .val (.int c107), .val (.int (3 : Int32)), .unset, .unset, .unset, .unset, .unset, .unset, .unset, .unset, .unset]) (S' := []) (pc' := 40) rfl ?_
    have id1 : ∀ c ∈ ([c103, c104, c105, c106] : List Int32), own_id c = true := by intro c hc; simp only [List.mem_cons, List.not_mem_nil, or_false] at hc; rcases hc with rfl | rfl | rfl | rfl <;> assumption
    have id2 : ∀ c ∈ ([c107, c104, c105, c106] : List Int32), own_id c = true := by intro c hc; simp only [List.mem_cons, List.not_mem_nil, or_false] at hc; rcases hc with rfl | rfl | rfl | rfl <;> assumption
    obtain ⟨L1, hL1⟩ : ∃ z, [c103, c104, c105, c106] = z := ⟨_, rfl⟩
    obtain ⟨L2, hL2⟩ : ∃ z, [c107, c104, c105, c106] = z := ⟨_, rfl⟩
    rw [hL1] at id1
    rw [hL2] at id2
    have n1 : L1.length = 4 := by rw [← hL1]; rfl
    have n2 : L2.length = 4 := by rw [← hL2]; rfl
    have heq : own_eq L1 L2 = own_eq [c103] [c107] := by rw [← hL1, ← hL2]; unfold own_eq; congr 1; simp
    refine Goes.new X _ (wd hw 5 rfl) (wd hw 6 rfl) (wd hw 7 rfl) (new_String hw) (fun a108 => ?_)
    refine Goes.runS X [(.dup, 1), (.iload 11, 2), (.iload 6, 2), (.iload 7, 2), (.iload 8, 2), (.iload 9, 2)] (S' := [.int c106, .int c105, .int c104, .int c103, .int (3 : Int32), .ref a108, .ref a108]) (pc' := 54) rfl ?_
    refine Goes.callS X 2 [] [0] (D_mk3 l Z a0 h0 hw c103 hc103 c104 hc104 c105 hc105 c106 hc106) (wd hw 8 rfl) (wd hw 9 rfl) (wd hw 2 rfl) (wd hw 10 rfl) pd_y_1 rfl (st := [.ref a108, .ref a108]) rfl rfl (G := [(a108, o_String .null (.int 0) (.int 0) (.int 0))]) rfl rfl ?_
    rintro _ _ ⟨b109, rfl, rfl⟩
    refine ⟨Or.inl rfl, ?_⟩
    rw [hL1]
    show Goes _ _ _ _ _ _ _ _ _ _ _ _ _ _ _ _ _ _ _ _ [(b109, oCs L1), (a108, o_String .null (.int 0) (.int 0) (.int 0))] 2 8 (mkF m 57 #[.val (.int p0), .val (.int p1), .val (.int p2), .val (.int p3), .val (.int p4), .val (.int p5), .val (.int c103), .val (.int c104), .val (.int c105), .val (.int c106), .val (.int c107), .val (.int (3 : Int32)), .unset, .unset, .unset, .unset, .unset, .unset, .unset, .unset, .unset] [.ref b109, .ref a108, .ref a108])
    refine Goes.callN X 1 [1, 0] [] (D_sc l Z a0 h0 hw cs hCS hcs a108 b109 L1 id1 4 n1 (by decide) (by decide)) rfl (wd hw 12 rfl) (wd hw 13 rfl) (wd hw 7 rfl) (wd hw 14 rfl) pd_y_2 rfl (st := [.ref a108]) rfl rfl (G := []) rfl rfl ?_
    rintro _ _ ⟨t110, rfl, rfl⟩
    refine ⟨Or.inl rfl, ?_⟩
    refine Goes.run X [(.astore 12, 2)] (L' := #[.val (.int p0), .val (.int p1), .val (.int p2), .val (.int p3), .val (.int p4), .val (.int p5), .val (.int c103), .val (.int c104), .val (.int c105), .val (.int c106), .val (.int c107), .val (.int (3 : Int32)), .val (.ref a108), .unset, .unset, .unset, .unset, .unset, .unset, .unset, .unset]) (S' := []) (pc' := 62) rfl ?_
    refine Goes.new X _ (wd hw 5 rfl) (wd hw 6 rfl) (wd hw 7 rfl) (new_String hw) (fun a111 => ?_)
    refine Goes.runS X [(.dup, 1), (.iload 11, 2), (.iload 10, 2), (.iload 7, 2), (.iload 8, 2), (.iload 9, 2)] (S' := [.int c106, .int c105, .int c104, .int c107, .int (3 : Int32), .ref a111, .ref a111]) (pc' := 76) rfl ?_
    refine Goes.callS X 2 [] [0, 1, 2] (D_mk3 l Z a0 h0 hw c107 hc107 c104 hc104 c105 hc105 c106 hc106) (wd hw 8 rfl) (wd hw 9 rfl) (wd hw 2 rfl) (wd hw 10 rfl) pd_y_1 rfl (st := [.ref a111, .ref a111]) rfl rfl (G := [(a108, o_String (.ref t110) (.int 0) (.int 0) (.int 0)), (t110, oBs (L1.map own_by)), (a111, o_String .null (.int 0) (.int 0) (.int 0))]) rfl rfl ?_
    rintro _ _ ⟨b112, rfl, rfl⟩
    refine ⟨Or.inl rfl, ?_⟩
    rw [hL2]
    show Goes _ _ _ _ _ _ _ _ _ _ _ _ _ _ _ _ _ _ _ _ [(b112, oCs L2), (a108, o_String (.ref t110) (.int 0) (.int 0) (.int 0)), (t110, oBs (L1.map own_by)), (a111, o_String .null (.int 0) (.int 0) (.int 0))] 5 48 (mkF m 79 #[.val (.int p0), .val (.int p1), .val (.int p2), .val (.int p3), .val (.int p4), .val (.int p5), .val (.int c103), .val (.int c104), .val (.int c105), .val (.int c106), .val (.int c107), .val (.int (3 : Int32)), .val (.ref a108), .unset, .unset, .unset, .unset, .unset, .unset, .unset, .unset] [.ref b112, .ref a111, .ref a111])
    refine Goes.callN X 1 [3, 0] [1, 2] (D_sc l Z a0 h0 hw cs hCS hcs a111 b112 L2 id2 4 n2 (by decide) (by decide)) rfl (wd hw 12 rfl) (wd hw 13 rfl) (wd hw 7 rfl) (wd hw 14 rfl) pd_y_2 rfl (st := [.ref a111]) rfl rfl (G := [(a108, o_String (.ref t110) (.int 0) (.int 0) (.int 0)), (t110, oBs (L1.map own_by))]) rfl rfl ?_
    rintro _ _ ⟨t113, rfl, rfl⟩
    refine ⟨Or.inl rfl, ?_⟩
    refine Goes.run X [(.astore 13, 2)] (L' := #[.val (.int p0), .val (.int p1), .val (.int p2), .val (.int p3), .val (.int p4), .val (.int p5), .val (.int c103), .val (.int c104), .val (.int c105), .val (.int c106), .val (.int c107), .val (.int (3 : Int32)), .val (.ref a108), .val (.ref a111), .unset, .unset, .unset, .unset, .unset, .unset, .unset]) (S' := []) (pc' := 84) rfl ?_
    refine Goes.runS X [(.aload 12, 2)] (S' := [.ref a108]) (pc' := 86) rfl ?_
    refine Goes.callSW X 0 [2, 3] [0, 1] (D_of l Z a0 h0 hw cs hCS hcs sio hSIO hsio a108 t110 (.int 0) (.int 0) L1 id1 4 n1 (by decide) (by decide)) (wd hw 38 rfl) (wd hw 39 rfl) (wd hw 40 rfl) (wd hw 41 rfl) pd_y_7 rfl (st := []) rfl rfl (G := [(a111, o_String (.ref t113) (.int 0) (.int 0) (.int 0)), (t113, oBs (L2.map own_by))]) rfl rfl ?_
    rintro _ _ vm0 k0 ⟨o114, rfl, rfl⟩ X
    refine ⟨Or.inl rfl, ?_⟩
    refine Goes.run X [(.astore 14, 2)] (L' := #[.val (.int p0), .val (.int p1), .val (.int p2), .val (.int p3), .val (.int p4), .val (.int p5), .val (.int c103), .val (.int c104), .val (.int c105), .val (.int c106), .val (.int c107), .val (.int (3 : Int32)), .val (.ref a108), .val (.ref a111), .val (.ref o114), .unset, .unset, .unset, .unset, .unset, .unset]) (S' := []) (pc' := 91) rfl ?_
    refine Goes.runS X [(.aload 13, 2)] (S' := [.ref a111]) (pc' := 93) rfl ?_
    refine Goes.callSW X 0 [3, 4] [0, 1, 2] (D_of l Z a0 h0 hw cs hCS hcs sio hSIO hsio a111 t113 (.int 0) (.int 0) L2 id2 4 n2 (by decide) (by decide)) (wd hw 38 rfl) (wd hw 39 rfl) (wd hw 40 rfl) (wd hw 41 rfl) pd_y_7 rfl (st := []) rfl rfl (G := [(o114, o_Acc (.ref a108)), (a108, o_String (.ref t110) (.int 0) (.int 0) (.int 0)), (t110, oBs (L1.map own_by))]) rfl rfl ?_
    rintro _ _ vm0 k0 ⟨o115, rfl, rfl⟩ X
    refine ⟨Or.inl rfl, ?_⟩
    refine Goes.run X [(.astore 15, 2)] (L' := #[.val (.int p0), .val (.int p1), .val (.int p2), .val (.int p3), .val (.int p4), .val (.int p5), .val (.int c103), .val (.int c104), .val (.int c105), .val (.int c106), .val (.int c107), .val (.int (3 : Int32)), .val (.ref a108), .val (.ref a111), .val (.ref o114), .val (.ref o115), .unset, .unset, .unset, .unset, .unset]) (S' := []) (pc' := 98) rfl ?_
    refine Goes.runS X [(.iload 6, 2), (.iload 10, 2)] (S' := [.int c107, .int c103]) (pc' := 102) rfl ?_
    refine Goes.if2 X (pc' := 109) (o := 7) (cd := .ne) (fun q116 => ?_) (fun q116 => ?_)
    · have h117 : ¬ c103 = c107 := by simpa [if_icmp.holds] using q116
      have hv : own_eq L1 L2 = 0 := by rw [heq, own_eq, if_neg (by simp [h117])]
      refine Goes.run X [(.iconst 0, 1), (.istore 16, 2), (.aload 14, 2)] (L' := #[.val (.int p0), .val (.int p1), .val (.int p2), .val (.int p3), .val (.int p4), .val (.int p5), .val (.int c103), .val (.int c104), .val (.int c105), .val (.int c106), .val (.int c107), .val (.int (3 : Int32)), .val (.ref a108), .val (.ref a111), .val (.ref o114), .val (.ref o115), .val (.int (0 : Int32)), .unset, .unset, .unset, .unset]) (S' := [.ref o114]) (pc' := 114) rfl ?_
      refine Goes.callV X 0 3 [3] [0, 1, 2, 4, 5] rfl (D_tos l Z a0 h0 hw o114 a108) (wd hw 97 rfl) (wd hw 98 rfl) (wd hw 100 rfl) (wd hw 99 rfl) (own_nf X (wd hw 100 rfl)) (wd hw 40 rfl) (wd hw 101 rfl) pd_y_19 rfl (st := []) rfl rfl (G := [(o115, o_Acc (.ref a111)), (a111, o_String (.ref t113) (.int 0) (.int 0) (.int 0)), (t113, oBs (L2.map own_by)), (a108, o_String (.ref t110) (.int 0) (.int 0) (.int 0)), (t110, oBs (L1.map own_by))]) rfl rfl ?_
      rintro _ _ ⟨rfl, rfl⟩
      refine ⟨Or.inr (Or.inr fun _ q => Or.inr (Or.inr q)), ?_⟩
      refine Goes.runS X [(.aload 12, 2)] (S' := [.ref a108, .ref a108]) (pc' := 119) rfl ?_
      refine Goes.callV X 0 4 [] [0, 1, 2, 3, 4, 5] rfl (D_seq1 l Z a0 h0 hw a108) (wd hw 102 rfl) (wd hw 103 rfl) (wd hw 105 rfl) (wd hw 104 rfl) (own_nf X (wd hw 105 rfl)) (wd hw 7 rfl) (wd hw 106 rfl) pd_y_20 rfl (st := []) rfl rfl (G := [(o114, o_Acc (.ref a108)), (o115, o_Acc (.ref a111)), (a111, o_String (.ref t113) (.int 0) (.int 0) (.int 0)), (t113, oBs (L2.map own_by)), (a108, o_String (.ref t110) (.int 0) (.int 0) (.int 0)), (t110, oBs (L1.map own_by))]) rfl rfl ?_
      rintro _ _ ⟨rfl, rfl⟩
      refine ⟨Or.inr (Or.inr fun _ q => Or.inr (Or.inr q)), ?_⟩
      refine Goes.run X [(.istore 17, 2), (.aload 15, 2)] (L' := #[.val (.int p0), .val (.int p1), .val (.int p2), .val (.int p3), .val (.int p4), .val (.int p5), .val (.int c103), .val (.int c104), .val (.int c105), .val (.int c106), .val (.int c107), .val (.int (3 : Int32)), .val (.ref a108), .val (.ref a111), .val (.ref o114), .val (.ref o115), .val (.int (0 : Int32)), .val (.int (1 : Int32)), .unset, .unset, .unset]) (S' := [.ref o115]) (pc' := 126) rfl ?_
      refine Goes.callV X 0 1 [1] [0, 2, 3, 4, 5] rfl (D_tos l Z a0 h0 hw o115 a111) (wd hw 97 rfl) (wd hw 98 rfl) (wd hw 100 rfl) (wd hw 99 rfl) (own_nf X (wd hw 100 rfl)) (wd hw 40 rfl) (wd hw 101 rfl) pd_y_19 rfl (st := []) rfl rfl (G := [(o114, o_Acc (.ref a108)), (a111, o_String (.ref t113) (.int 0) (.int 0) (.int 0)), (t113, oBs (L2.map own_by)), (a108, o_String (.ref t110) (.int 0) (.int 0) (.int 0)), (t110, oBs (L1.map own_by))]) rfl rfl ?_
      rintro _ _ ⟨rfl, rfl⟩
      refine ⟨Or.inr (Or.inr fun _ q => Or.inr (Or.inr q)), ?_⟩
      refine Goes.runS X [(.aload 13, 2)] (S' := [.ref a111, .ref a111]) (pc' := 131) rfl ?_
      refine Goes.callV X 0 2 [] [0, 1, 2, 3, 4, 5] rfl (D_seq1 l Z a0 h0 hw a111) (wd hw 102 rfl) (wd hw 103 rfl) (wd hw 105 rfl) (wd hw 104 rfl) (own_nf X (wd hw 105 rfl)) (wd hw 7 rfl) (wd hw 106 rfl) pd_y_20 rfl (st := []) rfl rfl (G := [(o115, o_Acc (.ref a111)), (o114, o_Acc (.ref a108)), (a111, o_String (.ref t113) (.int 0) (.int 0) (.int 0)), (t113, oBs (L2.map own_by)), (a108, o_String (.ref t110) (.int 0) (.int 0) (.int 0)), (t110, oBs (L1.map own_by))]) rfl rfl ?_
      rintro _ _ ⟨rfl, rfl⟩
      refine ⟨Or.inr (Or.inr fun _ q => Or.inr (Or.inr q)), ?_⟩
      refine Goes.run X [(.istore 18, 2), (.aload 14, 2), (.aload 15, 2)] (L' := #[.val (.int p0), .val (.int p1), .val (.int p2), .val (.int p3), .val (.int p4), .val (.int p5), .val (.int c103), .val (.int c104), .val (.int c105), .val (.int c106), .val (.int c107), .val (.int (3 : Int32)), .val (.ref a108), .val (.ref a111), .val (.ref o114), .val (.ref o115), .val (.int (0 : Int32)), .val (.int (1 : Int32)), .val (.int (1 : Int32)), .unset, .unset]) (S' := [.ref o115, .ref o114]) (pc' := 140) rfl ?_
      refine Goes.callV X 0 1 [1, 0, 4, 2, 5, 3] [] rfl (D_aeq l Z a0 h0 hw cs hCS hcs o114 o115 a108 t110 a111 t113 (.int 0) (.int 0) (.int 0) (.int 0) L1 L2 id1 id2 4 n1 n2 (by decide) (by decide)) (wd hw 107 rfl) (wd hw 108 rfl) (wd hw 110 rfl) (wd hw 109 rfl) (own_nf X (wd hw 110 rfl)) (wd hw 40 rfl) (wd hw 111 rfl) pd_y_21 rfl (st := []) rfl rfl (G := []) rfl rfl ?_
      rintro _ _ ⟨rfl, rfl⟩
      refine ⟨Or.inr (Or.inr fun _ q => Or.inr (Or.inr q)), ?_⟩
      rw [hv]
      show Goes _ _ _ _ _ _ _ _ _ _ _ _ _ _ _ _ _ _ _ _ [(o114, o_Acc (.ref a108)), (o115, o_Acc (.ref a111)), (a108, o_String (.ref t110) (.int 0) (.int 0) (.int 0)), (a111, o_String (.ref t113) (.int 0) (.int 0) (.int 0)), (t110, oBs (L1.map own_by)), (t113, oBs (L2.map own_by))] 12 122 (mkF m 143 #[.val (.int p0), .val (.int p1), .val (.int p2), .val (.int p3), .val (.int p4), .val (.int p5), .val (.int c103), .val (.int c104), .val (.int c105), .val (.int c106), .val (.int c107), .val (.int (3 : Int32)), .val (.ref a108), .val (.ref a111), .val (.ref o114), .val (.ref o115), .val (.int (0 : Int32)), .val (.int (1 : Int32)), .val (.int (1 : Int32)), .unset, .unset] [.int (0 : Int32)])
      refine Goes.runS X [(.iload 16, 2)] (S' := [.int (0 : Int32), .int (0 : Int32)]) (pc' := 145) rfl ?_
      refine Goes.if2 X (pc' := 152) (o := 7) (cd := .ne) (fun q => absurd q (by decide)) (fun _ => ?_)
      refine Goes.runS X [(.iconst 1, 1)] (S' := [.int (1 : Int32)]) (pc' := 149) rfl ?_
      refine Goes.goto X (o := 4) (pc' := 153) ?_
      refine Goes.run X [(.istore 19, 2), (.iload 16, 2)] (L' := #[.val (.int p0), .val (.int p1), .val (.int p2), .val (.int p3), .val (.int p4), .val (.int p5), .val (.int c103), .val (.int c104), .val (.int c105), .val (.int c106), .val (.int c107), .val (.int (3 : Int32)), .val (.ref a108), .val (.ref a111), .val (.ref o114), .val (.ref o115), .val (.int (0 : Int32)), .val (.int (1 : Int32)), .val (.int (1 : Int32)), .val (.int (1 : Int32)), .unset]) (S' := [.int (0 : Int32)]) (pc' := 157) rfl ?_
      refine Goes.if1 X (pc' := 173) (o := 16) (cd := .eq) (fun _ => ?_) (fun q => absurd q (by decide))
      refine Goes.runS X [(.iconst 1, 1)] (S' := [.int (1 : Int32)]) (pc' := 174) rfl ?_
      refine Goes.goto X (o := 4) (pc' := 178) ?_
      refine Goes.run X [(.istore 20, 2), (.iload 17, 2)] (L' := #[.val (.int p0), .val (.int p1), .val (.int p2), .val (.int p3), .val (.int p4), .val (.int p5), .val (.int c103), .val (.int c104), .val (.int c105), .val (.int c106), .val (.int c107), .val (.int (3 : Int32)), .val (.ref a108), .val (.ref a111), .val (.ref o114), .val (.ref o115), .val (.int (0 : Int32)), .val (.int (1 : Int32)), .val (.int (1 : Int32)), .val (.int (1 : Int32)), .val (.int (1 : Int32))]) (S' := [.int (1 : Int32)]) (pc' := 182) rfl ?_
      refine Goes.if1 X (pc' := 204) (o := 22) (cd := .eq) (fun q => absurd q (by decide)) (fun _ => ?_)
      refine Goes.runS X [(.iload 18, 2)] (S' := [.int (1 : Int32)]) (pc' := 187) rfl ?_
      refine Goes.if1 X (pc' := 204) (o := 17) (cd := .eq) (fun q => absurd q (by decide)) (fun _ => ?_)
      refine Goes.runS X [(.iload 19, 2)] (S' := [.int (1 : Int32)]) (pc' := 192) rfl ?_
      refine Goes.if1 X (pc' := 204) (o := 12) (cd := .eq) (fun q => absurd q (by decide)) (fun _ => ?_)
      refine Goes.runS X [(.iload 20, 2)] (S' := [.int (1 : Int32)]) (pc' := 197) rfl ?_
      refine Goes.if1 X (pc' := 204) (o := 7) (cd := .eq) (fun q => absurd q (by decide)) (fun _ => ?_)
      refine Goes.runS X [(.iconst 1, 1)] (S' := [.int (1 : Int32)]) (pc' := 201) rfl ?_
      refine Goes.goto X (o := 4) (pc' := 205) ?_
      refine Goes.retI X (by simp) rfl ?_
      exact rfl
    · have h118 : c103 = c107 := by simpa [if_icmp.holds] using q116
      have hv : own_eq L1 L2 = 1 := by rw [heq, own_eq, if_pos (by simp [h118])]
      refine Goes.runS X [(.iconst 1, 1)] (S' := [.int (1 : Int32)]) (pc' := 106) rfl ?_
      refine Goes.goto X (o := 4) (pc' := 110) ?_
      refine Goes.run X [(.istore 16, 2), (.aload 14, 2)] (L' := #[.val (.int p0), .val (.int p1), .val (.int p2), .val (.int p3), .val (.int p4), .val (.int p5), .val (.int c103), .val (.int c104), .val (.int c105), .val (.int c106), .val (.int c107), .val (.int (3 : Int32)), .val (.ref a108), .val (.ref a111), .val (.ref o114), .val (.ref o115), .val (.int (1 : Int32)), .unset, .unset, .unset, .unset]) (S' := [.ref o114]) (pc' := 114) rfl ?_
      refine Goes.callV X 0 3 [3] [0, 1, 2, 4, 5] rfl (D_tos l Z a0 h0 hw o114 a108) (wd hw 97 rfl) (wd hw 98 rfl) (wd hw 100 rfl) (wd hw 99 rfl) (own_nf X (wd hw 100 rfl)) (wd hw 40 rfl) (wd hw 101 rfl) pd_y_19 rfl (st := []) rfl rfl (G := [(o115, o_Acc (.ref a111)), (a111, o_String (.ref t113) (.int 0) (.int 0) (.int 0)), (t113, oBs (L2.map own_by)), (a108, o_String (.ref t110) (.int 0) (.int 0) (.int 0)), (t110, oBs (L1.map own_by))]) rfl rfl ?_
      rintro _ _ ⟨rfl, rfl⟩
      refine ⟨Or.inr (Or.inr fun _ q => Or.inr (Or.inr q)), ?_⟩
      refine Goes.runS X [(.aload 12, 2)] (S' := [.ref a108, .ref a108]) (pc' := 119) rfl ?_
      refine Goes.callV X 0 4 [] [0, 1, 2, 3, 4, 5] rfl (D_seq1 l Z a0 h0 hw a108) (wd hw 102 rfl) (wd hw 103 rfl) (wd hw 105 rfl) (wd hw 104 rfl) (own_nf X (wd hw 105 rfl)) (wd hw 7 rfl) (wd hw 106 rfl) pd_y_20 rfl (st := []) rfl rfl (G := [(o114, o_Acc (.ref a108)), (o115, o_Acc (.ref a111)), (a111, o_String (.ref t113) (.int 0) (.int 0) (.int 0)), (t113, oBs (L2.map own_by)), (a108, o_String (.ref t110) (.int 0) (.int 0) (.int 0)), (t110, oBs (L1.map own_by))]) rfl rfl ?_
      rintro _ _ ⟨rfl, rfl⟩
      refine ⟨Or.inr (Or.inr fun _ q => Or.inr (Or.inr q)), ?_⟩
      refine Goes.run X [(.istore 17, 2), (.aload 15, 2)] (L' := #[.val (.int p0), .val (.int p1), .val (.int p2), .val (.int p3), .val (.int p4), .val (.int p5), .val (.int c103), .val (.int c104), .val (.int c105), .val (.int c106), .val (.int c107), .val (.int (3 : Int32)), .val (.ref a108), .val (.ref a111), .val (.ref o114), .val (.ref o115), .val (.int (1 : Int32)), .val (.int (1 : Int32)), .unset, .unset, .unset]) (S' := [.ref o115]) (pc' := 126) rfl ?_
      refine Goes.callV X 0 1 [1] [0, 2, 3, 4, 5] rfl (D_tos l Z a0 h0 hw o115 a111) (wd hw 97 rfl) (wd hw 98 rfl) (wd hw 100 rfl) (wd hw 99 rfl) (own_nf X (wd hw 100 rfl)) (wd hw 40 rfl) (wd hw 101 rfl) pd_y_19 rfl (st := []) rfl rfl (G := [(o114, o_Acc (.ref a108)), (a111, o_String (.ref t113) (.int 0) (.int 0) (.int 0)), (t113, oBs (L2.map own_by)), (a108, o_String (.ref t110) (.int 0) (.int 0) (.int 0)), (t110, oBs (L1.map own_by))]) rfl rfl ?_
      rintro _ _ ⟨rfl, rfl⟩
      refine ⟨Or.inr (Or.inr fun _ q => Or.inr (Or.inr q)), ?_⟩
      refine Goes.runS X [(.aload 13, 2)] (S' := [.ref a111, .ref a111]) (pc' := 131) rfl ?_
      refine Goes.callV X 0 2 [] [0, 1, 2, 3, 4, 5] rfl (D_seq1 l Z a0 h0 hw a111) (wd hw 102 rfl) (wd hw 103 rfl) (wd hw 105 rfl) (wd hw 104 rfl) (own_nf X (wd hw 105 rfl)) (wd hw 7 rfl) (wd hw 106 rfl) pd_y_20 rfl (st := []) rfl rfl (G := [(o115, o_Acc (.ref a111)), (o114, o_Acc (.ref a108)), (a111, o_String (.ref t113) (.int 0) (.int 0) (.int 0)), (t113, oBs (L2.map own_by)), (a108, o_String (.ref t110) (.int 0) (.int 0) (.int 0)), (t110, oBs (L1.map own_by))]) rfl rfl ?_
      rintro _ _ ⟨rfl, rfl⟩
      refine ⟨Or.inr (Or.inr fun _ q => Or.inr (Or.inr q)), ?_⟩
      refine Goes.run X [(.istore 18, 2), (.aload 14, 2), (.aload 15, 2)] (L' := #[.val (.int p0), .val (.int p1), .val (.int p2), .val (.int p3), .val (.int p4), .val (.int p5), .val (.int c103), .val (.int c104), .val (.int c105), .val (.int c106), .val (.int c107), .val (.int (3 : Int32)), .val (.ref a108), .val (.ref a111), .val (.ref o114), .val (.ref o115), .val (.int (1 : Int32)), .val (.int (1 : Int32)), .val (.int (1 : Int32)), .unset, .unset]) (S' := [.ref o115, .ref o114]) (pc' := 140) rfl ?_
      refine Goes.callV X 0 1 [1, 0, 4, 2, 5, 3] [] rfl (D_aeq l Z a0 h0 hw cs hCS hcs o114 o115 a108 t110 a111 t113 (.int 0) (.int 0) (.int 0) (.int 0) L1 L2 id1 id2 4 n1 n2 (by decide) (by decide)) (wd hw 107 rfl) (wd hw 108 rfl) (wd hw 110 rfl) (wd hw 109 rfl) (own_nf X (wd hw 110 rfl)) (wd hw 40 rfl) (wd hw 111 rfl) pd_y_21 rfl (st := []) rfl rfl (G := []) rfl rfl ?_
      rintro _ _ ⟨rfl, rfl⟩
      refine ⟨Or.inr (Or.inr fun _ q => Or.inr (Or.inr q)), ?_⟩
      rw [hv]
      show Goes _ _ _ _ _ _ _ _ _ _ _ _ _ _ _ _ _ _ _ _ [(o114, o_Acc (.ref a108)), (o115, o_Acc (.ref a111)), (a108, o_String (.ref t110) (.int 0) (.int 0) (.int 0)), (a111, o_String (.ref t113) (.int 0) (.int 0) (.int 0)), (t110, oBs (L1.map own_by)), (t113, oBs (L2.map own_by))] 12 122 (mkF m 143 #[.val (.int p0), .val (.int p1), .val (.int p2), .val (.int p3), .val (.int p4), .val (.int p5), .val (.int c103), .val (.int c104), .val (.int c105), .val (.int c106), .val (.int c107), .val (.int (3 : Int32)), .val (.ref a108), .val (.ref a111), .val (.ref o114), .val (.ref o115), .val (.int (1 : Int32)), .val (.int (1 : Int32)), .val (.int (1 : Int32)), .unset, .unset] [.int (1 : Int32)])
      refine Goes.runS X [(.iload 16, 2)] (S' := [.int (1 : Int32), .int (1 : Int32)]) (pc' := 145) rfl ?_
      refine Goes.if2 X (pc' := 152) (o := 7) (cd := .ne) (fun q => absurd q (by decide)) (fun _ => ?_)
      refine Goes.runS X [(.iconst 1, 1)] (S' := [.int (1 : Int32)]) (pc' := 149) rfl ?_
      refine Goes.goto X (o := 4) (pc' := 153) ?_
      refine Goes.run X [(.istore 19, 2), (.iload 16, 2)] (L' := #[.val (.int p0), .val (.int p1), .val (.int p2), .val (.int p3), .val (.int p4), .val (.int p5), .val (.int c103), .val (.int c104), .val (.int c105), .val (.int c106), .val (.int c107), .val (.int (3 : Int32)), .val (.ref a108), .val (.ref a111), .val (.ref o114), .val (.ref o115), .val (.int (1 : Int32)), .val (.int (1 : Int32)), .val (.int (1 : Int32)), .val (.int (1 : Int32)), .unset]) (S' := [.int (1 : Int32)]) (pc' := 157) rfl ?_
      refine Goes.if1 X (pc' := 173) (o := 16) (cd := .eq) (fun q => absurd q (by decide)) (fun _ => ?_)
      refine Goes.runS X [(.aload 14, 2)] (S' := [.ref o114]) (pc' := 162) rfl ?_
      have hLL : L2 = L1 := by rw [← hL1, ← hL2, h118]
      refine Goes.callV X 0 0 [0, 2, 4] [1, 3, 5] rfl (D_ahc l Z a0 h0 hw cs hCS hcs o114 a108 t110 L1 id1 4 n1 (by decide) (by decide)) (wd hw 118 rfl) (wd hw 119 rfl) (wd hw 121 rfl) (wd hw 120 rfl) (own_nf X (wd hw 121 rfl)) (wd hw 40 rfl) (wd hw 122 rfl) pd_y_23 rfl (st := []) rfl rfl (G := [(o115, o_Acc (.ref a111)), (a111, o_String (.ref t113) (.int 0) (.int 0) (.int 0)), (t113, oBs (L2.map own_by))]) rfl rfl ?_
      rintro _ _ ⟨x119, z120, rfl, rfl⟩
      refine ⟨Or.inl rfl, ?_⟩
      refine Goes.runS X [(.aload 15, 2)] (S' := [.ref o115, .int (own_h L1 4)]) (pc' := 167) rfl ?_
      refine Goes.callV X 1 3 [3, 4, 5] [0, 1, 2] rfl (D_ahc l Z a0 h0 hw cs hCS hcs o115 a111 t113 L2 id2 4 n2 (by decide) (by decide)) (wd hw 118 rfl) (wd hw 119 rfl) (wd hw 121 rfl) (wd hw 120 rfl) (own_nf X (wd hw 121 rfl)) (wd hw 40 rfl) (wd hw 122 rfl) pd_y_23 rfl (st := [.int (own_h L1 4)]) rfl rfl (G := [(o114, o_Acc (.ref a108)), (a108, o_String (.ref t110) (.int 0) (x119) (z120)), (t110, oBs (L1.map own_by))]) rfl rfl ?_
      rintro _ _ ⟨x121, z122, rfl, rfl⟩
      refine ⟨Or.inl rfl, ?_⟩
      refine Goes.if2 X (pc' := 177) (o := 7) (cd := .ne) (fun q => absurd (q.symm.trans (by rw [hLL]; simp [if_icmp.holds] : if_icmp.holds .ne (own_h L1 4) (own_h L2 4) = false)) (by decide)) (fun _ => ?_)
      refine Goes.runS X [(.iconst 1, 1)] (S' := [.int (1 : Int32)]) (pc' := 174) rfl ?_
      refine Goes.goto X (o := 4) (pc' := 178) ?_
      refine Goes.run X [(.istore 20, 2), (.iload 17, 2)] (L' := #[.val (.int p0), .val (.int p1), .val (.int p2), .val (.int p3), .val (.int p4), .val (.int p5), .val (.int c103), .val (.int c104), .val (.int c105), .val (.int c106), .val (.int c107), .val (.int (3 : Int32)), .val (.ref a108), .val (.ref a111), .val (.ref o114), .val (.ref o115), .val (.int (1 : Int32)), .val (.int (1 : Int32)), .val (.int (1 : Int32)), .val (.int (1 : Int32)), .val (.int (1 : Int32))]) (S' := [.int (1 : Int32)]) (pc' := 182) rfl ?_
      refine Goes.if1 X (pc' := 204) (o := 22) (cd := .eq) (fun q => absurd q (by decide)) (fun _ => ?_)
      refine Goes.runS X [(.iload 18, 2)] (S' := [.int (1 : Int32)]) (pc' := 187) rfl ?_
      refine Goes.if1 X (pc' := 204) (o := 17) (cd := .eq) (fun q => absurd q (by decide)) (fun _ => ?_)
      refine Goes.runS X [(.iload 19, 2)] (S' := [.int (1 : Int32)]) (pc' := 192) rfl ?_
      refine Goes.if1 X (pc' := 204) (o := 12) (cd := .eq) (fun q => absurd q (by decide)) (fun _ => ?_)
      refine Goes.runS X [(.iload 20, 2)] (S' := [.int (1 : Int32)]) (pc' := 197) rfl ?_
      refine Goes.if1 X (pc' := 204) (o := 7) (cd := .eq) (fun q => absurd q (by decide)) (fun _ => ?_)
      refine Goes.runS X [(.iconst 1, 1)] (S' := [.int (1 : Int32)]) (pc' := 201) rfl ?_
      refine Goes.goto X (o := 4) (pc' := 205) ?_
      refine Goes.retI X (by simp) rfl ?_
      exact rfl
  · refine Goes.runS X [(.iload_n 0, 1)] (S' := [.int p0]) (pc' := 1) rfl ?_
    refine Goes.callS X 0 [] [] (D_ch l Z a0 h0 hw p0) (wd hw 0 rfl) (wd hw 1 rfl) (wd hw 2 rfl) (wd hw 3 rfl) pd_y_0 rfl (st := []) rfl rfl (G := []) rfl rfl ?_
    rintro _ _ ⟨c123, rfl, hc123, rfl⟩
    refine ⟨Or.inr (Or.inr fun _ q => Or.inr (Or.inr q)), ?_⟩
    refine Goes.run X [(.istore 6, 2), (.iload_n 1, 1)] (L' := #[.val (.int p0), .val (.int p1), .val (.int p2), .val (.int p3), .val (.int p4), .val (.int p5), .val (.int c123), .unset, .unset, .unset, .unset, .unset, .unset, .unset, .unset, .unset, .unset, .unset, .unset, .unset, .unset]) (S' := [.int p1]) (pc' := 7) rfl ?_
    refine Goes.callS X 0 [] [] (D_ch l Z a0 h0 hw p1) (wd hw 0 rfl) (wd hw 1 rfl) (wd hw 2 rfl) (wd hw 3 rfl) pd_y_0 rfl (st := []) rfl rfl (G := []) rfl rfl ?_
    rintro _ _ ⟨c124, rfl, hc124, rfl⟩
    refine ⟨Or.inr (Or.inr fun _ q => Or.inr (Or.inr q)), ?_⟩
    refine Goes.run X [(.istore 7, 2), (.iload_n 2, 1)] (L' := #[.val (.int p0), .val (.int p1), .val (.int p2), .val (.int p3), .val (.int p4), .val (.int p5), .val (.int c123), .val (.int c124), .unset, .unset, .unset, .unset, .unset, .unset, .unset, .unset, .unset, .unset, .unset, .unset, .unset]) (S' := [.int p2]) (pc' := 13) rfl ?_
    refine Goes.callS X 0 [] [] (D_ch l Z a0 h0 hw p2) (wd hw 0 rfl) (wd hw 1 rfl) (wd hw 2 rfl) (wd hw 3 rfl) pd_y_0 rfl (st := []) rfl rfl (G := []) rfl rfl ?_
    rintro _ _ ⟨c125, rfl, hc125, rfl⟩
    refine ⟨Or.inr (Or.inr fun _ q => Or.inr (Or.inr q)), ?_⟩
    refine Goes.run X [(.istore 8, 2), (.iload_n 3, 1)] (L' := #[.val (.int p0), .val (.int p1), .val (.int p2), .val (.int p3), .val (.int p4), .val (.int p5), .val (.int c123), .val (.int c124), .val (.int c125), .unset, .unset, .unset, .unset, .unset, .unset, .unset, .unset, .unset, .unset, .unset, .unset]) (S' := [.int p3]) (pc' := 19) rfl ?_
    refine Goes.callS X 0 [] [] (D_ch l Z a0 h0 hw p3) (wd hw 0 rfl) (wd hw 1 rfl) (wd hw 2 rfl) (wd hw 3 rfl) pd_y_0 rfl (st := []) rfl rfl (G := []) rfl rfl ?_
    rintro _ _ ⟨c126, rfl, hc126, rfl⟩
    refine ⟨Or.inr (Or.inr fun _ q => Or.inr (Or.inr q)), ?_⟩
    refine Goes.run X [(.istore 9, 2), (.iload 4, 2)] (L' := #[.val (.int p0), .val (.int p1), .val (.int p2), .val (.int p3), .val (.int p4), .val (.int p5), .val (.int c123), .val (.int c124), .val (.int c125), .val (.int c126), .unset, .unset, .unset, .unset, .unset, .unset, .unset, .unset, .unset, .unset, .unset]) (S' := [.int p4]) (pc' := 26) rfl ?_
    refine Goes.callS X 0 [] [] (D_ch l Z a0 h0 hw p4) (wd hw 0 rfl) (wd hw 1 rfl) (wd hw 2 rfl) (wd hw 3 rfl) pd_y_0 rfl (st := []) rfl rfl (G := []) rfl rfl ?_
    rintro _ _ ⟨c127, rfl, hc127, rfl⟩
    refine ⟨Or.inr (Or.inr fun _ q => Or.inr (Or.inr q)), ?_⟩
    refine Goes.run X [(.istore 10, 2), (.iload 5, 2)] (L' := #[.val (.int p0), .val (.int p1), .val (.int p2), .val (.int p3), .val (.int p4), .val (.int p5), .val (.int c123), .val (.int c124), .val (.int c125), .val (.int c126), .val (.int c127), .unset, .unset, .unset, .unset, .unset, .unset, .unset, .unset, .unset, .unset]) (S' := [.int p5]) (pc' := 33) rfl ?_
    refine Goes.ldcI X (wd hw 4 rfl) ?_
    refine Goes.runS X [(.iand, 1), (.iconst 5, 1), (.irem, 1)] (S' := [.int ((p5 &&& (2147483647 : Int32)) % (5 : Int32))]) (pc' := 38) rfl ?_
    rw [e4]
    show Goes _ _ _ _ _ _ _ _ _ _ _ _ _ _ _ _ _ _ _ _ [] 0 0 (mkF m 38 #[.val (.int p0), .val (.int p1), .val (.int p2), .val (.int p3), .val (.int p4), .val (.int p5), .val (.int c123), .val (.int c124), .val (.int c125), .val (.int c126), .val (.int c127), .unset, .unset, .unset, .unset, .unset, .unset, .unset, .unset, .unset, .unset] [.int (4 : Int32)])
    refine Goes.run X [(.istore 11, 2)] (L' := #[.val (.int p0), .val (.int p1), .val (.int p2), .val (.int p3), .val (.int p4), .val (.int p5), .val (.int c123), .val (.int c124), .val (.int c125), .val (.int c126), .val (.int c127), .val (.int (4 : Int32)), .unset, .unset, .unset, .unset, .unset, .unset, .unset, .unset, .unset]) (S' := []) (pc' := 40) rfl ?_
    have id1 : ∀ c ∈ ([c123, c124, c125, c126, c123, c124, c125, c126, c123, c124, c125, c126, c123, c124, c125, c126, c123, c124, c125, c126, c123, c124, c125, c126, c123, c124, c125, c126, c123, c124, c125, c126] : List Int32), own_id c = true := by intro c hc; simp only [List.mem_cons, List.not_mem_nil, or_false] at hc; rcases hc with rfl | rfl | rfl | rfl | rfl | rfl | rfl | rfl | rfl | rfl | rfl | rfl | rfl | rfl | rfl | rfl | rfl | rfl | rfl | rfl | rfl | rfl | rfl | rfl | rfl | rfl | rfl | rfl | rfl | rfl | rfl | rfl <;> assumption
    have id2 : ∀ c ∈ ([c127, c124, c125, c126, c127, c124, c125, c126, c127, c124, c125, c126, c127, c124, c125, c126, c127, c124, c125, c126, c127, c124, c125, c126, c127, c124, c125, c126, c127, c124, c125, c126] : List Int32), own_id c = true := by intro c hc; simp only [List.mem_cons, List.not_mem_nil, or_false] at hc; rcases hc with rfl | rfl | rfl | rfl | rfl | rfl | rfl | rfl | rfl | rfl | rfl | rfl | rfl | rfl | rfl | rfl | rfl | rfl | rfl | rfl | rfl | rfl | rfl | rfl | rfl | rfl | rfl | rfl | rfl | rfl | rfl | rfl <;> assumption
    obtain ⟨L1, hL1⟩ : ∃ z, [c123, c124, c125, c126, c123, c124, c125, c126, c123, c124, c125, c126, c123, c124, c125, c126, c123, c124, c125, c126, c123, c124, c125, c126, c123, c124, c125, c126, c123, c124, c125, c126] = z := ⟨_, rfl⟩
    obtain ⟨L2, hL2⟩ : ∃ z, [c127, c124, c125, c126, c127, c124, c125, c126, c127, c124, c125, c126, c127, c124, c125, c126, c127, c124, c125, c126, c127, c124, c125, c126, c127, c124, c125, c126, c127, c124, c125, c126] = z := ⟨_, rfl⟩
    rw [hL1] at id1
    rw [hL2] at id2
    have n1 : L1.length = 32 := by rw [← hL1]; rfl
    have n2 : L2.length = 32 := by rw [← hL2]; rfl
    have heq : own_eq L1 L2 = own_eq [c123] [c127] := by rw [← hL1, ← hL2]; unfold own_eq; congr 1; simp
    refine Goes.new X _ (wd hw 5 rfl) (wd hw 6 rfl) (wd hw 7 rfl) (new_String hw) (fun a128 => ?_)
    refine Goes.runS X [(.dup, 1), (.iload 11, 2), (.iload 6, 2), (.iload 7, 2), (.iload 8, 2), (.iload 9, 2)] (S' := [.int c126, .int c125, .int c124, .int c123, .int (4 : Int32), .ref a128, .ref a128]) (pc' := 54) rfl ?_
    refine Goes.callS X 2 [] [0] (D_mk4 l Z a0 h0 hw c123 hc123 c124 hc124 c125 hc125 c126 hc126) (wd hw 8 rfl) (wd hw 9 rfl) (wd hw 2 rfl) (wd hw 10 rfl) pd_y_1 rfl (st := [.ref a128, .ref a128]) rfl rfl (G := [(a128, o_String .null (.int 0) (.int 0) (.int 0))]) rfl rfl ?_
    rintro _ _ ⟨b129, rfl, rfl⟩
    refine ⟨Or.inl rfl, ?_⟩
    rw [hL1]
    show Goes _ _ _ _ _ _ _ _ _ _ _ _ _ _ _ _ _ _ _ _ [(b129, oCs L1), (a128, o_String .null (.int 0) (.int 0) (.int 0))] 2 36 (mkF m 57 #[.val (.int p0), .val (.int p1), .val (.int p2), .val (.int p3), .val (.int p4), .val (.int p5), .val (.int c123), .val (.int c124), .val (.int c125), .val (.int c126), .val (.int c127), .val (.int (4 : Int32)), .unset, .unset, .unset, .unset, .unset, .unset, .unset, .unset, .unset] [.ref b129, .ref a128, .ref a128])
    refine Goes.callN X 1 [1, 0] [] (D_sc l Z a0 h0 hw cs hCS hcs a128 b129 L1 id1 32 n1 (by decide) (by decide)) rfl (wd hw 12 rfl) (wd hw 13 rfl) (wd hw 7 rfl) (wd hw 14 rfl) pd_y_2 rfl (st := [.ref a128]) rfl rfl (G := []) rfl rfl ?_
    rintro _ _ ⟨t130, rfl, rfl⟩
    refine ⟨Or.inl rfl, ?_⟩
    refine Goes.run X [(.astore 12, 2)] (L' := #[.val (.int p0), .val (.int p1), .val (.int p2), .val (.int p3), .val (.int p4), .val (.int p5), .val (.int c123), .val (.int c124), .val (.int c125), .val (.int c126), .val (.int c127), .val (.int (4 : Int32)), .val (.ref a128), .unset, .unset, .unset, .unset, .unset, .unset, .unset, .unset]) (S' := []) (pc' := 62) rfl ?_
    refine Goes.new X _ (wd hw 5 rfl) (wd hw 6 rfl) (wd hw 7 rfl) (new_String hw) (fun a131 => ?_)
    refine Goes.runS X [(.dup, 1), (.iload 11, 2), (.iload 10, 2), (.iload 7, 2), (.iload 8, 2), (.iload 9, 2)] (S' := [.int c126, .int c125, .int c124, .int c127, .int (4 : Int32), .ref a131, .ref a131]) (pc' := 76) rfl ?_
    refine Goes.callS X 2 [] [0, 1, 2] (D_mk4 l Z a0 h0 hw c127 hc127 c124 hc124 c125 hc125 c126 hc126) (wd hw 8 rfl) (wd hw 9 rfl) (wd hw 2 rfl) (wd hw 10 rfl) pd_y_1 rfl (st := [.ref a131, .ref a131]) rfl rfl (G := [(a128, o_String (.ref t130) (.int 0) (.int 0) (.int 0)), (t130, oBs (L1.map own_by)), (a131, o_String .null (.int 0) (.int 0) (.int 0))]) rfl rfl ?_
    rintro _ _ ⟨b132, rfl, rfl⟩
    refine ⟨Or.inl rfl, ?_⟩
    rw [hL2]
    show Goes _ _ _ _ _ _ _ _ _ _ _ _ _ _ _ _ _ _ _ _ [(b132, oCs L2), (a128, o_String (.ref t130) (.int 0) (.int 0) (.int 0)), (t130, oBs (L1.map own_by)), (a131, o_String .null (.int 0) (.int 0) (.int 0))] 5 104 (mkF m 79 #[.val (.int p0), .val (.int p1), .val (.int p2), .val (.int p3), .val (.int p4), .val (.int p5), .val (.int c123), .val (.int c124), .val (.int c125), .val (.int c126), .val (.int c127), .val (.int (4 : Int32)), .val (.ref a128), .unset, .unset, .unset, .unset, .unset, .unset, .unset, .unset] [.ref b132, .ref a131, .ref a131])
    refine Goes.callN X 1 [3, 0] [1, 2] (D_sc l Z a0 h0 hw cs hCS hcs a131 b132 L2 id2 32 n2 (by decide) (by decide)) rfl (wd hw 12 rfl) (wd hw 13 rfl) (wd hw 7 rfl) (wd hw 14 rfl) pd_y_2 rfl (st := [.ref a131]) rfl rfl (G := [(a128, o_String (.ref t130) (.int 0) (.int 0) (.int 0)), (t130, oBs (L1.map own_by))]) rfl rfl ?_
    rintro _ _ ⟨t133, rfl, rfl⟩
    refine ⟨Or.inl rfl, ?_⟩
    refine Goes.run X [(.astore 13, 2)] (L' := #[.val (.int p0), .val (.int p1), .val (.int p2), .val (.int p3), .val (.int p4), .val (.int p5), .val (.int c123), .val (.int c124), .val (.int c125), .val (.int c126), .val (.int c127), .val (.int (4 : Int32)), .val (.ref a128), .val (.ref a131), .unset, .unset, .unset, .unset, .unset, .unset, .unset]) (S' := []) (pc' := 84) rfl ?_
    refine Goes.runS X [(.aload 12, 2)] (S' := [.ref a128]) (pc' := 86) rfl ?_
    refine Goes.callSW X 0 [2, 3] [0, 1] (D_of l Z a0 h0 hw cs hCS hcs sio hSIO hsio a128 t130 (.int 0) (.int 0) L1 id1 32 n1 (by decide) (by decide)) (wd hw 38 rfl) (wd hw 39 rfl) (wd hw 40 rfl) (wd hw 41 rfl) pd_y_7 rfl (st := []) rfl rfl (G := [(a131, o_String (.ref t133) (.int 0) (.int 0) (.int 0)), (t133, oBs (L2.map own_by))]) rfl rfl ?_
    rintro _ _ vm0 k0 ⟨o134, rfl, rfl⟩ X
    refine ⟨Or.inl rfl, ?_⟩
    refine Goes.run X [(.astore 14, 2)] (L' := #[.val (.int p0), .val (.int p1), .val (.int p2), .val (.int p3), .val (.int p4), .val (.int p5), .val (.int c123), .val (.int c124), .val (.int c125), .val (.int c126), .val (.int c127), .val (.int (4 : Int32)), .val (.ref a128), .val (.ref a131), .val (.ref o134), .unset, .unset, .unset, .unset, .unset, .unset]) (S' := []) (pc' := 91) rfl ?_
    refine Goes.runS X [(.aload 13, 2)] (S' := [.ref a131]) (pc' := 93) rfl ?_
    refine Goes.callSW X 0 [3, 4] [0, 1, 2] (D_of l Z a0 h0 hw cs hCS hcs sio hSIO hsio a131 t133 (.int 0) (.int 0) L2 id2 32 n2 (by decide) (by decide)) (wd hw 38 rfl) (wd hw 39 rfl) (wd hw 40 rfl) (wd hw 41 rfl) pd_y_7 rfl (st := []) rfl rfl (G := [(o134, o_Acc (.ref a128)), (a128, o_String (.ref t130) (.int 0) (.int 0) (.int 0)), (t130, oBs (L1.map own_by))]) rfl rfl ?_
    rintro _ _ vm0 k0 ⟨o135, rfl, rfl⟩ X
    refine ⟨Or.inl rfl, ?_⟩
    refine Goes.run X [(.astore 15, 2)] (L' := #[.val (.int p0), .val (.int p1), .val (.int p2), .val (.int p3), .val (.int p4), .val (.int p5), .val (.int c123), .val (.int c124), .val (.int c125), .val (.int c126), .val (.int c127), .val (.int (4 : Int32)), .val (.ref a128), .val (.ref a131), .val (.ref o134), .val (.ref o135), .unset, .unset, .unset, .unset, .unset]) (S' := []) (pc' := 98) rfl ?_
    refine Goes.runS X [(.iload 6, 2), (.iload 10, 2)] (S' := [.int c127, .int c123]) (pc' := 102) rfl ?_
    refine Goes.if2 X (pc' := 109) (o := 7) (cd := .ne) (fun q136 => ?_) (fun q136 => ?_)
    · have h137 : ¬ c123 = c127 := by simpa [if_icmp.holds] using q136
      have hv : own_eq L1 L2 = 0 := by rw [heq, own_eq, if_neg (by simp [h137])]
      refine Goes.run X [(.iconst 0, 1), (.istore 16, 2), (.aload 14, 2)] (L' := #[.val (.int p0), .val (.int p1), .val (.int p2), .val (.int p3), .val (.int p4), .val (.int p5), .val (.int c123), .val (.int c124), .val (.int c125), .val (.int c126), .val (.int c127), .val (.int (4 : Int32)), .val (.ref a128), .val (.ref a131), .val (.ref o134), .val (.ref o135), .val (.int (0 : Int32)), .unset, .unset, .unset, .unset]) (S' := [.ref o134]) (pc' := 114) rfl ?_
      refine Goes.callV X 0 3 [3] [0, 1, 2, 4, 5] rfl (D_tos l Z a0 h0 hw o134 a128) (wd hw 97 rfl) (wd hw 98 rfl) (wd hw 100 rfl) (wd hw 99 rfl) (own_nf X (wd hw 100 rfl)) (wd hw 40 rfl) (wd hw 101 rfl) pd_y_19 rfl (st := []) rfl rfl (G := [(o135, o_Acc (.ref a131)), (a131, o_String (.ref t133) (.int 0) (.int 0) (.int 0)), (t133, oBs (L2.map own_by)), (a128, o_String (.ref t130) (.int 0) (.int 0) (.int 0)), (t130, oBs (L1.map own_by))]) rfl rfl ?_
      rintro _ _ ⟨rfl, rfl⟩
      refine ⟨Or.inr (Or.inr fun _ q => Or.inr (Or.inr q)), ?_⟩
      refine Goes.runS X [(.aload 12, 2)] (S' := [.ref a128, .ref a128]) (pc' := 119) rfl ?_
      refine Goes.callV X 0 4 [] [0, 1, 2, 3, 4, 5] rfl (D_seq1 l Z a0 h0 hw a128) (wd hw 102 rfl) (wd hw 103 rfl) (wd hw 105 rfl) (wd hw 104 rfl) (own_nf X (wd hw 105 rfl)) (wd hw 7 rfl) (wd hw 106 rfl) pd_y_20 rfl (st := []) rfl rfl (G := [(o134, o_Acc (.ref a128)), (o135, o_Acc (.ref a131)), (a131, o_String (.ref t133) (.int 0) (.int 0) (.int 0)), (t133, oBs (L2.map own_by)), (a128, o_String (.ref t130) (.int 0) (.int 0) (.int 0)), (t130, oBs (L1.map own_by))]) rfl rfl ?_
      rintro _ _ ⟨rfl, rfl⟩
      refine ⟨Or.inr (Or.inr fun _ q => Or.inr (Or.inr q)), ?_⟩
      refine Goes.run X [(.istore 17, 2), (.aload 15, 2)] (L' := #[.val (.int p0), .val (.int p1), .val (.int p2), .val (.int p3), .val (.int p4), .val (.int p5), .val (.int c123), .val (.int c124), .val (.int c125), .val (.int c126), .val (.int c127), .val (.int (4 : Int32)), .val (.ref a128), .val (.ref a131), .val (.ref o134), .val (.ref o135), .val (.int (0 : Int32)), .val (.int (1 : Int32)), .unset, .unset, .unset]) (S' := [.ref o135]) (pc' := 126) rfl ?_
      refine Goes.callV X 0 1 [1] [0, 2, 3, 4, 5] rfl (D_tos l Z a0 h0 hw o135 a131) (wd hw 97 rfl) (wd hw 98 rfl) (wd hw 100 rfl) (wd hw 99 rfl) (own_nf X (wd hw 100 rfl)) (wd hw 40 rfl) (wd hw 101 rfl) pd_y_19 rfl (st := []) rfl rfl (G := [(o134, o_Acc (.ref a128)), (a131, o_String (.ref t133) (.int 0) (.int 0) (.int 0)), (t133, oBs (L2.map own_by)), (a128, o_String (.ref t130) (.int 0) (.int 0) (.int 0)), (t130, oBs (L1.map own_by))]) rfl rfl ?_
      rintro _ _ ⟨rfl, rfl⟩
      refine ⟨Or.inr (Or.inr fun _ q => Or.inr (Or.inr q)), ?_⟩
      refine Goes.runS X [(.aload 13, 2)] (S' := [.ref a131, .ref a131]) (pc' := 131) rfl ?_
      refine Goes.callV X 0 2 [] [0, 1, 2, 3, 4, 5] rfl (D_seq1 l Z a0 h0 hw a131) (wd hw 102 rfl) (wd hw 103 rfl) (wd hw 105 rfl) (wd hw 104 rfl) (own_nf X (wd hw 105 rfl)) (wd hw 7 rfl) (wd hw 106 rfl) pd_y_20 rfl (st := []) rfl rfl (G := [(o135, o_Acc (.ref a131)), (o134, o_Acc (.ref a128)), (a131, o_String (.ref t133) (.int 0) (.int 0) (.int 0)), (t133, oBs (L2.map own_by)), (a128, o_String (.ref t130) (.int 0) (.int 0) (.int 0)), (t130, oBs (L1.map own_by))]) rfl rfl ?_
      rintro _ _ ⟨rfl, rfl⟩
      refine ⟨Or.inr (Or.inr fun _ q => Or.inr (Or.inr q)), ?_⟩
      refine Goes.run X [(.istore 18, 2), (.aload 14, 2), (.aload 15, 2)] (L' := #[.val (.int p0), .val (.int p1), .val (.int p2), .val (.int p3), .val (.int p4), .val (.int p5), .val (.int c123), .val (.int c124), .val (.int c125), .val (.int c126), .val (.int c127), .val (.int (4 : Int32)), .val (.ref a128), .val (.ref a131), .val (.ref o134), .val (.ref o135), .val (.int (0 : Int32)), .val (.int (1 : Int32)), .val (.int (1 : Int32)), .unset, .unset]) (S' := [.ref o135, .ref o134]) (pc' := 140) rfl ?_
      refine Goes.callV X 0 1 [1, 0, 4, 2, 5, 3] [] rfl (D_aeq l Z a0 h0 hw cs hCS hcs o134 o135 a128 t130 a131 t133 (.int 0) (.int 0) (.int 0) (.int 0) L1 L2 id1 id2 32 n1 n2 (by decide) (by decide)) (wd hw 107 rfl) (wd hw 108 rfl) (wd hw 110 rfl) (wd hw 109 rfl) (own_nf X (wd hw 110 rfl)) (wd hw 40 rfl) (wd hw 111 rfl) pd_y_21 rfl (st := []) rfl rfl (G := []) rfl rfl ?_
      rintro _ _ ⟨rfl, rfl⟩
      refine ⟨Or.inr (Or.inr fun _ q => Or.inr (Or.inr q)), ?_⟩
      rw [hv]
      show Goes _ _ _ _ _ _ _ _ _ _ _ _ _ _ _ _ _ _ _ _ [(o134, o_Acc (.ref a128)), (o135, o_Acc (.ref a131)), (a128, o_String (.ref t130) (.int 0) (.int 0) (.int 0)), (a131, o_String (.ref t133) (.int 0) (.int 0) (.int 0)), (t130, oBs (L1.map own_by)), (t133, oBs (L2.map own_by))] 12 178 (mkF m 143 #[.val (.int p0), .val (.int p1), .val (.int p2), .val (.int p3), .val (.int p4), .val (.int p5), .val (.int c123), .val (.int c124), .val (.int c125), .val (.int c126), .val (.int c127), .val (.int (4 : Int32)), .val (.ref a128), .val (.ref a131), .val (.ref o134), .val (.ref o135), .val (.int (0 : Int32)), .val (.int (1 : Int32)), .val (.int (1 : Int32)), .unset, .unset] [.int (0 : Int32)])
      refine Goes.runS X [(.iload 16, 2)] (S' := [.int (0 : Int32), .int (0 : Int32)]) (pc' := 145) rfl ?_
      refine Goes.if2 X (pc' := 152) (o := 7) (cd := .ne) (fun q => absurd q (by decide)) (fun _ => ?_)
      refine Goes.runS X [(.iconst 1, 1)] (S' := [.int (1 : Int32)]) (pc' := 149) rfl ?_
      refine Goes.goto X (o := 4) (pc' := 153) ?_
      refine Goes.run X [(.istore 19, 2), (.iload 16, 2)] (L' := #[.val (.int p0), .val (.int p1), .val (.int p2), .val (.int p3), .val (.int p4), .val (.int p5), .val (.int c123), .val (.int c124), .val (.int c125), .val (.int c126), .val (.int c127), .val (.int (4 : Int32)), .val (.ref a128), .val (.ref a131), .val (.ref o134), .val (.ref o135), .val (.int (0 : Int32)), .val (.int (1 : Int32)), .val (.int (1 : Int32)), .val (.int (1 : Int32)), .unset]) (S' := [.int (0 : Int32)]) (pc' := 157) rfl ?_
      refine Goes.if1 X (pc' := 173) (o := 16) (cd := .eq) (fun _ => ?_) (fun q => absurd q (by decide))
      refine Goes.runS X [(.iconst 1, 1)] (S' := [.int (1 : Int32)]) (pc' := 174) rfl ?_
      refine Goes.goto X (o := 4) (pc' := 178) ?_
      refine Goes.run X [(.istore 20, 2), (.iload 17, 2)] (L' := #[.val (.int p0), .val (.int p1), .val (.int p2), .val (.int p3), .val (.int p4), .val (.int p5), .val (.int c123), .val (.int c124), .val (.int c125), .val (.int c126), .val (.int c127), .val (.int (4 : Int32)), .val (.ref a128), .val (.ref a131), .val (.ref o134), .val (.ref o135), .val (.int (0 : Int32)), .val (.int (1 : Int32)), .val (.int (1 : Int32)), .val (.int (1 : Int32)), .val (.int (1 : Int32))]) (S' := [.int (1 : Int32)]) (pc' := 182) rfl ?_
      refine Goes.if1 X (pc' := 204) (o := 22) (cd := .eq) (fun q => absurd q (by decide)) (fun _ => ?_)
      refine Goes.runS X [(.iload 18, 2)] (S' := [.int (1 : Int32)]) (pc' := 187) rfl ?_
      refine Goes.if1 X (pc' := 204) (o := 17) (cd := .eq) (fun q => absurd q (by decide)) (fun _ => ?_)
      refine Goes.runS X [(.iload 19, 2)] (S' := [.int (1 : Int32)]) (pc' := 192) rfl ?_
      refine Goes.if1 X (pc' := 204) (o := 12) (cd := .eq) (fun q => absurd q (by decide)) (fun _ => ?_)
      refine Goes.runS X [(.iload 20, 2)] (S' := [.int (1 : Int32)]) (pc' := 197) rfl ?_
      refine Goes.if1 X (pc' := 204) (o := 7) (cd := .eq) (fun q => absurd q (by decide)) (fun _ => ?_)
      refine Goes.runS X [(.iconst 1, 1)] (S' := [.int (1 : Int32)]) (pc' := 201) rfl ?_
      refine Goes.goto X (o := 4) (pc' := 205) ?_
      refine Goes.retI X (by simp) rfl ?_
      exact rfl
    · have h138 : c123 = c127 := by simpa [if_icmp.holds] using q136
      have hv : own_eq L1 L2 = 1 := by rw [heq, own_eq, if_pos (by simp [h138])]
      refine Goes.runS X [(.iconst 1, 1)] (S' := [.int (1 : Int32)]) (pc' := 106) rfl ?_
      refine Goes.goto X (o := 4) (pc' := 110) ?_
      refine Goes.run X [(.istore 16, 2), (.aload 14, 2)] (L' := #[.val (.int p0), .val (.int p1), .val (.int p2), .val (.int p3), .val (.int p4), .val (.int p5), .val (.int c123), .val (.int c124), .val (.int c125), .val (.int c126), .val (.int c127), .val (.int (4 : Int32)), .val (.ref a128), .val (.ref a131), .val (.ref o134), .val (.ref o135), .val (.int (1 : Int32)), .unset, .unset, .unset, .unset]) (S' := [.ref o134]) (pc' := 114) rfl ?_
      refine Goes.callV X 0 3 [3] [0, 1, 2, 4, 5] rfl (D_tos l Z a0 h0 hw o134 a128) (wd hw 97 rfl) (wd hw 98 rfl) (wd hw 100 rfl) (wd hw 99 rfl) (own_nf X (wd hw 100 rfl)) (wd hw 40 rfl) (wd hw 101 rfl) pd_y_19 rfl (st := []) rfl rfl (G := [(o135, o_Acc (.ref a131)), (a131, o_String (.ref t133) (.int 0) (.int 0) (.int 0)), (t133, oBs (L2.map own_by)), (a128, o_String (.ref t130) (.int 0) (.int 0) (.int 0)), (t130, oBs (L1.map own_by))]) rfl rfl ?_
      rintro _ _ ⟨rfl, rfl⟩
      refine ⟨Or.inr (Or.inr fun _ q => Or.inr (Or.inr q)), ?_⟩
      refine Goes.runS X [(.aload 12, 2)] (S' := [.ref a128, .ref a128]) (pc' := 119) rfl ?_
      refine Goes.callV X 0 4 [] [0, 1, 2, 3, 4, 5] rfl (D_seq1 l Z a0 h0 hw a128) (wd hw 102 rfl) (wd hw 103 rfl) (wd hw 105 rfl) (wd hw 104 rfl) (own_nf X (wd hw 105 rfl)) (wd hw 7 rfl) (wd hw 106 rfl) pd_y_20 rfl (st := []) rfl rfl (G := [(o134, o_Acc (.ref a128)), (o135, o_Acc (.ref a131)), (a131, o_String (.ref t133) (.int 0) (.int 0) (.int 0)), (t133, oBs (L2.map own_by)), (a128, o_String (.ref t130) (.int 0) (.int 0) (.int 0)), (t130, oBs (L1.map own_by))]) rfl rfl ?_
      rintro _ _ ⟨rfl, rfl⟩
      refine ⟨Or.inr (Or.inr fun _ q => Or.inr (Or.inr q)), ?_⟩
      refine Goes.run X [(.istore 17, 2), (.aload 15, 2)] (L' := #[.val (.int p0), .val (.int p1), .val (.int p2), .val (.int p3), .val (.int p4), .val (.int p5), .val (.int c123), .val (.int c124), .val (.int c125), .val (.int c126), .val (.int c127), .val (.int (4 : Int32)), .val (.ref a128), .val (.ref a131), .val (.ref o134), .val (.ref o135), .val (.int (1 : Int32)), .val (.int (1 : Int32)), .unset, .unset, .unset]) (S' := [.ref o135]) (pc' := 126) rfl ?_
      refine Goes.callV X 0 1 [1] [0, 2, 3, 4, 5] rfl (D_tos l Z a0 h0 hw o135 a131) (wd hw 97 rfl) (wd hw 98 rfl) (wd hw 100 rfl) (wd hw 99 rfl) (own_nf X (wd hw 100 rfl)) (wd hw 40 rfl) (wd hw 101 rfl) pd_y_19 rfl (st := []) rfl rfl (G := [(o134, o_Acc (.ref a128)), (a131, o_String (.ref t133) (.int 0) (.int 0) (.int 0)), (t133, oBs (L2.map own_by)), (a128, o_String (.ref t130) (.int 0) (.int 0) (.int 0)), (t130, oBs (L1.map own_by))]) rfl rfl ?_
      rintro _ _ ⟨rfl, rfl⟩
      refine ⟨Or.inr (Or.inr fun _ q => Or.inr (Or.inr q)), ?_⟩
      refine Goes.runS X [(.aload 13, 2)] (S' := [.ref a131, .ref a131]) (pc' := 131) rfl ?_
      refine Goes.callV X 0 2 [] [0, 1, 2, 3, 4, 5] rfl (D_seq1 l Z a0 h0 hw a131) (wd hw 102 rfl) (wd hw 103 rfl) (wd hw 105 rfl) (wd hw 104 rfl) (own_nf X (wd hw 105 rfl)) (wd hw 7 rfl) (wd hw 106 rfl) pd_y_20 rfl (st := []) rfl rfl (G := [(o135, o_Acc (.ref a131)), (o134, o_Acc (.ref a128)), (a131, o_String (.ref t133) (.int 0) (.int 0) (.int 0)), (t133, oBs (L2.map own_by)), (a128, o_String (.ref t130) (.int 0) (.int 0) (.int 0)), (t130, oBs (L1.map own_by))]) rfl rfl ?_
      rintro _ _ ⟨rfl, rfl⟩
      refine ⟨Or.inr (Or.inr fun _ q => Or.inr (Or.inr q)), ?_⟩
      refine Goes.run X [(.istore 18, 2), (.aload 14, 2), (.aload 15, 2)] (L' := #[.val (.int p0), .val (.int p1), .val (.int p2), .val (.int p3), .val (.int p4), .val (.int p5), .val (.int c123), .val (.int c124), .val (.int c125), .val (.int c126), .val (.int c127), .val (.int (4 : Int32)), .val (.ref a128), .val (.ref a131), .val (.ref o134), .val (.ref o135), .val (.int (1 : Int32)), .val (.int (1 : Int32)), .val (.int (1 : Int32)), .unset, .unset]) (S' := [.ref o135, .ref o134]) (pc' := 140) rfl ?_
      refine Goes.callV X 0 1 [1, 0, 4, 2, 5, 3] [] rfl (D_aeq l Z a0 h0 hw cs hCS hcs o134 o135 a128 t130 a131 t133 (.int 0) (.int 0) (.int 0) (.int 0) L1 L2 id1 id2 32 n1 n2 (by decide) (by decide)) (wd hw 107 rfl) (wd hw 108 rfl) (wd hw 110 rfl) (wd hw 109 rfl) (own_nf X (wd hw 110 rfl)) (wd hw 40 rfl) (wd hw 111 rfl) pd_y_21 rfl (st := []) rfl rfl (G := []) rfl rfl ?_
      rintro _ _ ⟨rfl, rfl⟩
      refine ⟨Or.inr (Or.inr fun _ q => Or.inr (Or.inr q)), ?_⟩
      rw [hv]
      show Goes _ _ _ _ _ _ _ _ _ _ _ _ _ _ _ _ _ _ _ _ [(o134, o_Acc (.ref a128)), (o135, o_Acc (.ref a131)), (a128, o_String (.ref t130) (.int 0) (.int 0) (.int 0)), (a131, o_String (.ref t133) (.int 0) (.int 0) (.int 0)), (t130, oBs (L1.map own_by)), (t133, oBs (L2.map own_by))] 12 178 (mkF m 143 #[.val (.int p0), .val (.int p1), .val (.int p2), .val (.int p3), .val (.int p4), .val (.int p5), .val (.int c123), .val (.int c124), .val (.int c125), .val (.int c126), .val (.int c127), .val (.int (4 : Int32)), .val (.ref a128), .val (.ref a131), .val (.ref o134), .val (.ref o135), .val (.int (1 : Int32)), .val (.int (1 : Int32)), .val (.int (1 : Int32)), .unset, .unset] [.int (1 : Int32)])
      refine Goes.runS X [(.iload 16, 2)] (S' := [.int (1 : Int32), .int (1 : Int32)]) (pc' := 145) rfl ?_
      refine Goes.if2 X (pc' := 152) (o := 7) (cd := .ne) (fun q => absurd q (by decide)) (fun _ => ?_)
      refine Goes.runS X [(.iconst 1, 1)] (S' := [.int (1 : Int32)]) (pc' := 149) rfl ?_
      refine Goes.goto X (o := 4) (pc' := 153) ?_
      refine Goes.run X [(.istore 19, 2), (.iload 16, 2)] (L' := #[.val (.int p0), .val (.int p1), .val (.int p2), .val (.int p3), .val (.int p4), .val (.int p5), .val (.int c123), .val (.int c124), .val (.int c125), .val (.int c126), .val (.int c127), .val (.int (4 : Int32)), .val (.ref a128), .val (.ref a131), .val (.ref o134), .val (.ref o135), .val (.int (1 : Int32)), .val (.int (1 : Int32)), .val (.int (1 : Int32)), .val (.int (1 : Int32)), .unset]) (S' := [.int (1 : Int32)]) (pc' := 157) rfl ?_
      refine Goes.if1 X (pc' := 173) (o := 16) (cd := .eq) (fun q => absurd q (by decide)) (fun _ => ?_)
      refine Goes.runS X [(.aload 14, 2)] (S' := [.ref o134]) (pc' := 162) rfl ?_
      have hLL : L2 = L1 := by rw [← hL1, ← hL2, h138]
      refine Goes.callV X 0 0 [0, 2, 4] [1, 3, 5] rfl (D_ahc l Z a0 h0 hw cs hCS hcs o134 a128 t130 L1 id1 32 n1 (by decide) (by decide)) (wd hw 118 rfl) (wd hw 119 rfl) (wd hw 121 rfl) (wd hw 120 rfl) (own_nf X (wd hw 121 rfl)) (wd hw 40 rfl) (wd hw 122 rfl) pd_y_23 rfl (st := []) rfl rfl (G := [(o135, o_Acc (.ref a131)), (a131, o_String (.ref t133) (.int 0) (.int 0) (.int 0)), (t133, oBs (L2.map own_by))]) rfl rfl ?_
      rintro _ _ ⟨x139, z140, rfl, rfl⟩
      refine ⟨Or.inl rfl, ?_⟩
      refine Goes.runS X [(.aload 15, 2)] (S' := [.ref o135, .int (own_h L1 32)]) (pc' := 167) rfl ?_
      refine Goes.callV X 1 3 [3, 4, 5] [0, 1, 2] rfl (D_ahc l Z a0 h0 hw cs hCS hcs o135 a131 t133 L2 id2 32 n2 (by decide) (by decide)) (wd hw 118 rfl) (wd hw 119 rfl) (wd hw 121 rfl) (wd hw 120 rfl) (own_nf X (wd hw 121 rfl)) (wd hw 40 rfl) (wd hw 122 rfl) pd_y_23 rfl (st := [.int (own_h L1 32)]) rfl rfl (G := [(o134, o_Acc (.ref a128)), (a128, o_String (.ref t130) (.int 0) (x139) (z140)), (t130, oBs (L1.map own_by))]) rfl rfl ?_
      rintro _ _ ⟨x141, z142, rfl, rfl⟩
      refine ⟨Or.inl rfl, ?_⟩
      refine Goes.if2 X (pc' := 177) (o := 7) (cd := .ne) (fun q => absurd (q.symm.trans (by rw [hLL]; simp [if_icmp.holds] : if_icmp.holds .ne (own_h L1 32) (own_h L2 32) = false)) (by decide)) (fun _ => ?_)
      refine Goes.runS X [(.iconst 1, 1)] (S' := [.int (1 : Int32)]) (pc' := 174) rfl ?_
      refine Goes.goto X (o := 4) (pc' := 178) ?_
      refine Goes.run X [(.istore 20, 2), (.iload 17, 2)] (L' := #[.val (.int p0), .val (.int p1), .val (.int p2), .val (.int p3), .val (.int p4), .val (.int p5), .val (.int c123), .val (.int c124), .val (.int c125), .val (.int c126), .val (.int c127), .val (.int (4 : Int32)), .val (.ref a128), .val (.ref a131), .val (.ref o134), .val (.ref o135), .val (.int (1 : Int32)), .val (.int (1 : Int32)), .val (.int (1 : Int32)), .val (.int (1 : Int32)), .val (.int (1 : Int32))]) (S' := [.int (1 : Int32)]) (pc' := 182) rfl ?_
      refine Goes.if1 X (pc' := 204) (o := 22) (cd := .eq) (fun q => absurd q (by decide)) (fun _ => ?_)
      refine Goes.runS X [(.iload 18, 2)] (S' := [.int (1 : Int32)]) (pc' := 187) rfl ?_
      refine Goes.if1 X (pc' := 204) (o := 17) (cd := .eq) (fun q => absurd q (by decide)) (fun _ => ?_)
      refine Goes.runS X [(.iload 19, 2)] (S' := [.int (1 : Int32)]) (pc' := 192) rfl ?_
      refine Goes.if1 X (pc' := 204) (o := 12) (cd := .eq) (fun q => absurd q (by decide)) (fun _ => ?_)
      refine Goes.runS X [(.iload 20, 2)] (S' := [.int (1 : Int32)]) (pc' := 197) rfl ?_
      refine Goes.if1 X (pc' := 204) (o := 7) (cd := .eq) (fun q => absurd q (by decide)) (fun _ => ?_)
      refine Goes.runS X [(.iconst 1, 1)] (S' := [.int (1 : Int32)]) (pc' := 201) rfl ?_
      refine Goes.goto X (o := 4) (pc' := 205) ?_
      refine Goes.retI X (by simp) rfl ?_
      exact rfl
set_option maxRecDepth 65536 in
set_option maxHeartbeats 40000000 in
theorem comes_1 {Post : Tables → Env → Array Value → State → Outcome → State → Prop} (hpost : ∀ tb e args s v u, (limb_1_1.after args s (.returned v) u = true ∧ limb_1_2.after args s (.returned v) u = true ∧ True) → ReturnedEndW s (.returned v) u (Jvm.fieldLocs frame_1_writes args s ++ Jvm.arrayLocs frame_1_arrays args s ++ Jvm.staticLocs frame_1_statics s) 32 1408 → Post tb e args s (.returned v) u) :
    ArmFor flags0 classFile x code maxLocals ret World_1 tables_1 room_1 Calls_1 rest_1 Pre_1 Post := by
  intro l hfl _ _ p e ha hc hk s m args below hf hA hF happ hP
  obtain ⟨hcalls, hrest, hpre⟩ := hP
  obtain ⟨-, -, -, hnamed, -, -, -, hat⟩ := (Spec.applies_iff hf).mp happ
  obtain ⟨hg, hn⟩ := and_e (Cond.before_iff.mp (show (Jvm.Cond.and given_1 narrow_1).before args s = true from hpre))
  obtain ⟨h1, h2⟩ := and_e hg
  obtain ⟨w0, w1, w2, w3, w4, w5, rfl⟩ : ∃ w0 w1 w2 w3 w4 w5 : Value, args = #[w0, w1, w2, w3, w4, w5] := by
    have hs : args.size = 6 := by simpa [Cond.value, given_1] using h1
    obtain ⟨L⟩ := args
    match L, hs with
    | [w0, w1, w2, w3, w4, w5], _ => exact ⟨w0, w1, w2, w3, w4, w5, rfl⟩
  have hw := fun d (hd : d ∈ tables_1) => atoms_spec (ws := Jvm.Cond.code x code maxLocals ret :: tables_1) hat d (List.mem_cons_of_mem _ hd)
  have hfit : Fit s := fun {y c} hc i hi => by
    obtain ⟨ha, rfl⟩ := Array.getElem?_eq_some_iff.mp hc
    have q := List.all_eq_true.mp ((Array.all_eq_true_iff_forall_mem.mp hF) _ (Array.getElem_mem ha)) i (List.mem_range.mpr hi)
    simpa [Array.getElem?_eq_getElem hi] using q
  obtain ⟨k0, h2⟩ := and_e h2
  obtain ⟨z0, ez0⟩ := is_v k0
  obtain rfl : w0 = (.int z0) := Option.some.inj ez0
  obtain ⟨k1, h2⟩ := and_e h2
  obtain ⟨z1, ez1⟩ := is_v k1
  obtain rfl : w1 = (.int z1) := Option.some.inj ez1
  obtain ⟨k2, h2⟩ := and_e h2
  obtain ⟨z2, ez2⟩ := is_v k2
  obtain rfl : w2 = (.int z2) := Option.some.inj ez2
  obtain ⟨k3, h2⟩ := and_e h2
  obtain ⟨z3, ez3⟩ := is_v k3
  obtain rfl : w3 = (.int z3) := Option.some.inj ez3
  obtain ⟨k4, h2⟩ := and_e h2
  obtain ⟨z4, ez4⟩ := is_v k4
  obtain rfl : w4 = (.int z4) := Option.some.inj ez4
  have k5 := h2
  obtain ⟨z5, ez5⟩ := is_v k5
  obtain rfl : w5 = (.int z5) := Option.some.inj ez5
  obtain ⟨hsets, hown0⟩ := atoms_of _ (rest_1_c_eq ▸ (show rest_1_c.before _ s = true from hrest))
  have n5 := not_v (Cond.before_iff.mp (hsets _ (List.mem_of_getElem? (i := 2) rfl)))
  obtain ⟨cs, ecs⟩ := is_v (Cond.before_iff.mp (hsets _ (List.mem_of_getElem? (i := 1) rfl)))
  have hCS : Sta s s.heap "java/lang/String" "COMPACT_STRINGS" "Z" (.int cs) := Sta.start ecs (Or.inl (hsets _ (List.mem_of_getElem? (i := 0) rfl)))
  have hcs : ¬ (cs = (0 : Int32)) := gotF (Cond.eq_ints ecs (Term.int_eval (0))) n5
  obtain ⟨sio, esio, rsio⟩ := isR_v (Cond.before_iff.mp (hsets _ (List.mem_of_getElem? (i := 8) rfl)))
  have hSIO : Sta s s.heap "jdk/internal/util/Preconditions" "SIOOBE_FORMATTER" "Ljava/util/function/BiFunction;" sio := Sta.start esio (Or.inl (hsets _ (List.mem_of_getElem? (i := 7) rfl)))
  have hsio : sio.category = 1 := own_cat rsio
  have HS := Hp.startW s _ own_EL (own_EW hw) (fun p hp => nomatch hp) (Cond.before_iff.mpr (Cond.before_iff.mp (hsets _ (List.mem_of_getElem? (i := 2) rfl)))) (wd hw 27 rfl) (wd hw 6 rfl)
  have D := D_law l s _ s.heap hw cs hCS hcs sio hSIO hsio z0 z1 z2 z3 z4 z5
  obtain ⟨n, o, g1, g2, g3, v, L, rfl, ⟨N, F', k1, hQ, -⟩, hq⟩ := D tables_1 s.heap p e ha hc hk s m _ below hf ((Spec.applies_iff_loose hf).mp happ).1 ⟨rfl, State.Warmed39.refl s, rfl, HS⟩ trivial
  obtain rfl := hQ
  exact ⟨n, _, g1, g2, g3, hpost _ _ _ _ _ _ ⟨Cond.after_iff.mpr rfl, Cond.after_iff.mpr (eq_i res_at (Term.int_eval (1)) rfl), trivial⟩ ⟨hq.1, hq.2.1, hq.2.2.1, (hq.2.2.2.sift fun y hy => Or.inr (N y hy)).mono (by decide) (by decide)⟩⟩
theorem main_1_1 : Claimed_1_1 := comes_1 fun _ _ _ _ _ _ h hF => ⟨h.1, hF⟩
theorem main_1_2 : Claimed_1_2 := comes_1 fun _ _ _ _ _ _ h hF => ⟨h.2.1, hF⟩
end Jvm.Pilot.@@N@@
namespace Jvm.Pilot.@@N@@
open Jvm Jvm.ClassFile Sem Op Lib Jvm.Free Jvm.Stand Jvm.Pilot.@@N@@.Jvm.D
/-! MADE BY PROGRAM (witnessworld.py) out of the Statement's table words and the real class files: 21 classes; the members and pool entries that the words name. The judged class is class 1, her method 3. -/
namespace start1
open Jvm.ClassFile
def u (s : String) : CpInfo := .utf8 (stringToUtf16 s)
/-- a pool by its gaps: so many unusable entries, then the entry; so many at the end -/
def gap : Nat → List CpInfo → List CpInfo
  | 0, r => r
  | n + 1, r => .unusable :: gap n r
def poolList (es : List (Nat × CpInfo)) (last : Nat) : List CpInfo := es.foldr (fun e r => gap e.1 (e.2 :: r)) (gap last [])
def pool (es : List (Nat × CpInfo)) (last : Nat) : Array CpInfo := ⟨poolList es last⟩
def fileOf (pool : Array CpInfo) (this : Nat) (attrs : Array Attribute := #[]) (ms : Array MethodInfo := #[]) (fl : Nat := 33) (sup : Nat := 0) (ifs : Array Nat := #[]) (fds : Array FieldInfo := #[]) : ClassFile where
  minorVersion := 0
  majorVersion := 65
  constantPool := pool
  accessFlags := fl
  thisClass := this
  superClass := sup
  interfaces := ifs
  fields := fds
  methods := ms
  attributes := attrs
def plain (name : String) (sup : Option ClassId) : Class where
  name := name
  kind := .ordinary
  loader := none
  accessFlags := 33
  super := sup
  interfaces := #[]
  cf := none
  fields := #[]
  methods := #[]
  instanceTypes := #[]
  staticTypes := #[]
  resolved := #[]
  callSites := []
  init := .initialized
  statics := none
  mirror := none

def pool0 : Array CpInfo := pool [(5, u "<init>"), (0, u "()V"), (1, .class_ 10), (1, u "java/lang/Object")] 113

def k0c0 : Code := { maxStack := 0, maxLocals := 1, code := object_method_1_code, exceptionTable := #[], attributes := #[] }
def k0m0 : Method := { name := "<init>", desc := "()V", sig := { parameters := [], returnType := none }, accessFlags := 1, code := some k0c0 }
/-- java/lang/Object -/
def k0 : Class := { plain "java/lang/Object" none with
  accessFlags := 33
  interfaces := #[]
  cf := some (fileOf pool0 8 #[] #[{ accessFlags := 1, nameIndex := 5, descriptorIndex := 6, attributes := #[] }] 33 0 #[] #[])
  fields := #[]
  methods := #[k0m0]
  instanceTypes := #[]
  staticTypes := #[]
  resolved := Array.replicate 124 none
  statics := none }

def pool1 : Array CpInfo := pool [(2, .class_ 4), (1, u "java/lang/Object"), (0, u "<init>"), (0, u "()V"), (0, .integer 2147483647), (0, .methodref 9 10), (0, .class_ 11), (0, .nameAndType 12 13), (0, u "com/example/woven_feed/wovenfeed/AccountIdOfPinLaw"), (0, u "ch"), (0, u "(I)C"), (0, .class_ 15), (0, u "java/lang/String"), (0, .methodref 9 17), (0, .nameAndType 18 19), (0, u "make"), (0, u "(ICCCC)[C"), (0, .methodref 14 21), (0, .nameAndType 5 22), (0, u "([C)V"), (0, .methodref 24 25), (0, .class_ 26), (0, .nameAndType 27 28), (0, u "com/example/woven_feed/wovenfeed/AccountId"), (0, u "of"), (0, u "(Ljava/lang/String;)Lcom/example/woven_feed/wovenfeed/AccountId;"), (0, .methodref 24 30), (0, .nameAndType 31 32), (0, u "toString"), (0, u "()Ljava/lang/String;"), (0, .methodref 14 34), (0, .nameAndType 35 36), (0, u "equals"), (0, u "(Ljava/lang/Object;)Z"), (0, .methodref 24 34), (0, .methodref 24 39), (0, .nameAndType 40 41), (0, u "hashCode"), (0, u "()I"), (3, u "law"), (0, u "(IIIIII)Z")] 2

def k1m0 : Method := { name := "<init>", desc := "()V", sig := { parameters := [], returnType := none }, accessFlags := 1, code := none }
def k1c1 : Code := { maxStack := 3, maxLocals := 2, code := method_2_code, exceptionTable := #[], attributes := #[] }
def k1m1 : Method := { name := "ch", desc := "(I)C", sig := { parameters := [.int], returnType := some .char }, accessFlags := 10, code := some k1c1 }
def k1c2 : Code := { maxStack := 4, maxLocals := 5, code := method_3_code, exceptionTable := #[], attributes := #[] }
def k1m2 : Method := { name := "make", desc := "(ICCCC)[C", sig := { parameters := [.int, .char, .char, .char, .char], returnType := some (.array .char) }, accessFlags := 10, code := some k1c2 }
def k1c3 : Code := { maxStack := 7, maxLocals := 21, code := code, exceptionTable := #[], attributes := #[] }
def k1m3 : Method := { name := "law", desc := "(IIIIII)Z", sig := { parameters := [.int, .int, .int, .int, .int, .int], returnType := some .boolean }, accessFlags := 9, code := some k1c3 }
/-- com/example/woven_feed/wovenfeed/AccountIdOfPinLaw -/
def k1 : Class := { plain "com/example/woven_feed/wovenfeed/AccountIdOfPinLaw" (some 0) with
  accessFlags := 49
  interfaces := #[]
  cf := some (fileOf pool1 9 #[] #[{ accessFlags := 1, nameIndex := 5, descriptorIndex := 6, attributes := #[] }, { accessFlags := 10, nameIndex := 12, descriptorIndex := 13, attributes := #[] }, { accessFlags := 10, nameIndex := 18, descriptorIndex := 19, attributes := #[] }, { accessFlags := 9, nameIndex := 45, descriptorIndex := 46, attributes := #[] }] 49 2 #[] #[])
  fields := #[]
  methods := #[k1m0, k1m1, k1m2, k1m3]
  instanceTypes := #[]
  staticTypes := #[]
  resolved := Array.replicate 49 none
  statics := none }

def pool2 : Array CpInfo := pool [(1, .class_ 2), (0, u "java/io/Serializable"), (0, .class_ 4), (0, u "java/lang/Object")] 2

/-- java/io/Serializable -/
def k2 : Class := { plain "java/io/Serializable" (some 0) with
  accessFlags := 1537
  interfaces := #[]
  cf := some (fileOf pool2 1 #[] #[] 1537 3 #[] #[])
  fields := #[]
  methods := #[]
  instanceTypes := #[]
  staticTypes := #[]
  resolved := Array.replicate 7 none
  statics := none }

def pool3 : Array CpInfo := pool [(1, .class_ 2), (0, u "java/lang/Comparable"), (0, .class_ 4), (0, u "java/lang/Object")] 7

/-- java/lang/Comparable -/
def k3 : Class := { plain "java/lang/Comparable" (some 0) with
  accessFlags := 1537
  interfaces := #[]
  cf := some (fileOf pool3 1 #[] #[] 1537 3 #[] #[])
  fields := #[]
  methods := #[]
  instanceTypes := #[]
  staticTypes := #[]
  resolved := Array.replicate 12 none
  statics := none }

def pool4 : Array CpInfo := pool [(2, .class_ 4), (1, u "java/lang/CharSequence"), (42, .class_ 48), (0, u "java/lang/CharSequence$1CodePointIterator"), (10, .class_ 60), (0, u "java/lang/CharSequence$1CharIterator"), (5, .class_ 67), (0, u "java/lang/Object")] 63

/-- java/lang/CharSequence -/
def k4 : Class := { plain "java/lang/CharSequence" (some 0) with
  accessFlags := 1537
  interfaces := #[]
  cf := some (fileOf pool4 2 #[.nestMembers #[47, 59]] #[] 1537 66 #[] #[])
  fields := #[]
  methods := #[]
  instanceTypes := #[]
  staticTypes := #[]
  resolved := Array.replicate 131 none
  statics := none }

def pool5 : Array CpInfo := pool [(1, .class_ 2), (0, u "java/lang/constant/Constable"), (0, .class_ 4), (0, u "java/lang/Object")] 6

/-- java/lang/constant/Constable -/
def k5 : Class := { plain "java/lang/constant/Constable" (some 0) with
  accessFlags := 1537
  interfaces := #[]
  cf := some (fileOf pool5 1 #[] #[] 1537 3 #[] #[])
  fields := #[]
  methods := #[]
  instanceTypes := #[]
  staticTypes := #[]
  resolved := Array.replicate 11 none
  statics := none }

def pool6 : Array CpInfo := pool [(1, .class_ 2), (0, u "java/lang/constant/ConstantDesc"), (0, .class_ 4), (0, u "java/lang/Object")] 32

/-- java/lang/constant/ConstantDesc -/
def k6 : Class := { plain "java/lang/constant/ConstantDesc" (some 0) with
  accessFlags := 1537
  interfaces := #[]
  cf := some (fileOf pool6 1 #[] #[] 1537 3 #[] #[])
  fields := #[]
  methods := #[]
  instanceTypes := #[]
  staticTypes := #[]
  resolved := Array.replicate 37 none
  statics := none }

def pool7 : Array CpInfo := pool [(1, .methodref 2 3), (0, .class_ 4), (0, .nameAndType 5 6), (0, u "java/lang/Object"), (0, u "<init>"), (0, u "()V"), (2, .fieldref 10 11), (0, .class_ 12), (0, .nameAndType 13 14), (0, u "java/lang/String"), (0, u "value"), (0, u "[B"), (0, .fieldref 10 16), (0, .nameAndType 17 18), (0, u "coder"), (0, u "B"), (0, .fieldref 10 20), (0, .nameAndType 21 22), (0, u "hash"), (0, u "I"), (0, .fieldref 10 24), (0, .nameAndType 25 26), (0, u "hashIsZero"), (0, u "Z"), (0, .methodref 10 28), (0, .nameAndType 5 29), (0, u "([CIILjava/lang/Void;)V"), (8, .fieldref 10 39), (0, .nameAndType 40 26), (0, u "COMPACT_STRINGS"), (1, .class_ 44), (1, u "java/lang/StringUTF16"), (0, u "compress"), (1, .methodref 42 48), (0, .nameAndType 49 50), (0, u "coderFromArrayLen"), (0, u "([BI)B"), (56, .class_ 109), (1, u "java/lang/StringLatin1"), (32, u "()Z"), (34, .methodref 42 178), (0, .nameAndType 45 179), (0, u "([CII)[B"), (154, u "()I"), (0, .methodref 10 336), (0, .nameAndType 17 337), (0, u "()B"), (25, u "([BI)C"), (27, u "(II)V"), (35, u "(I)C"), (64, .methodref 10 493), (0, .nameAndType 494 142), (0, u "isLatin1"), (0, .methodref 107 496), (0, .nameAndType 497 363), (0, u "charAt"), (3, u "checkIndex"), (5, u "length"), (33, .methodref 107 542), (0, .nameAndType 543 544), (0, u "equals"), (0, u "([B[B)Z"), (28, u "(Ljava/lang/Object;)Z"), (1, .class_ 576), (0, u "java/lang/CharSequence"), (22, u "CASE_INSENSITIVE_ORDER"), (0, u "Ljava/util/Comparator;"), (27, .methodref 107 629), (0, .nameAndType 630 631), (0, u "hashCode"), (0, u "([B)I"), (60, u "isEmpty"), (317, u "([C)V"), (42, .fieldref 1054 1055), (0, .class_ 1056), (0, .nameAndType 1057 1058), (0, u "jdk/internal/util/Preconditions"), (0, u "SIOOBE_FORMATTER"), (0, u "Ljava/util/function/BiFunction;"), (0, .methodref 1054 1060), (0, .nameAndType 501 1061), (0, u "(IILjava/util/function/BiFunction;)I"), (39, u "serialPersistentFields"), (0, u "[Ljava/io/ObjectStreamField;"), (0, .class_ 1104), (0, u "java/lang/String$CaseInsensitiveComparator"), (1, .class_ 1107), (0, u "java/io/Serializable"), (0, .class_ 1109), (0, u "java/lang/Comparable"), (0, .class_ 1111), (0, u "java/lang/constant/Constable"), (0, .class_ 1113), (0, u "java/lang/constant/ConstantDesc"), (2, u "serialVersionUID"), (0, u "J"), (3, u "REPL"), (0, u "C"), (2, u "LATIN1"), (1, u "UTF16")] 323

def k7m0 : Method := { name := "<init>", desc := "()V", sig := { parameters := [], returnType := none }, accessFlags := 1, code := none }
def k7c1 : Code := { maxStack := 5, maxLocals := 2, code := jdk_42_method_3_code, exceptionTable := #[], attributes := #[] }
def k7m1 : Method := { name := "<init>", desc := "([C)V", sig := { parameters := [(.array .char)], returnType := none }, accessFlags := 1, code := some k7c1 }
def k7c2 : Code := { maxStack := 2, maxLocals := 1, code := jdk_42_method_54_code, exceptionTable := #[], attributes := #[] }
def k7m2 : Method := { name := "length", desc := "()I", sig := { parameters := [], returnType := some .int }, accessFlags := 1, code := some k7c2 }
def k7c3 : Code := { maxStack := 1, maxLocals := 1, code := jdk_42_method_55_code, exceptionTable := #[], attributes := #[] }
def k7m3 : Method := { name := "isEmpty", desc := "()Z", sig := { parameters := [], returnType := some .boolean }, accessFlags := 1, code := some k7c3 }
def k7c4 : Code := { maxStack := 2, maxLocals := 2, code := jdk_42_method_56_code, exceptionTable := #[], attributes := #[] }
def k7m4 : Method := { name := "charAt", desc := "(I)C", sig := { parameters := [.int], returnType := some .char }, accessFlags := 1, code := some k7c4 }
def k7c5 : Code := { maxStack := 2, maxLocals := 3, code := jdk_42_method_66_code, exceptionTable := #[], attributes := #[] }
def k7m5 : Method := { name := "equals", desc := "(Ljava/lang/Object;)Z", sig := { parameters := [(.object "java/lang/Object")], returnType := some .boolean }, accessFlags := 1, code := some k7c5 }
def k7c6 : Code := { maxStack := 2, maxLocals := 2, code := jdk_42_method_78_code, exceptionTable := #[], attributes := #[] }
def k7m6 : Method := { name := "hashCode", desc := "()I", sig := { parameters := [], returnType := some .int }, accessFlags := 1, code := some k7c6 }
def k7c7 : Code := { maxStack := 4, maxLocals := 6, code := jdk_42_method_149_code, exceptionTable := #[], attributes := #[] }
def k7m7 : Method := { name := "<init>", desc := "([CIILjava/lang/Void;)V", sig := { parameters := [(.array .char), .int, .int, (.object "java/lang/Void")], returnType := none }, accessFlags := 2, code := some k7c7 }
def k7c8 : Code := { maxStack := 1, maxLocals := 1, code := jdk_42_method_152_code, exceptionTable := #[], attributes := #[] }
def k7m8 : Method := { name := "coder", desc := "()B", sig := { parameters := [], returnType := some .byte }, accessFlags := 0, code := some k7c8 }
def k7c9 : Code := { maxStack := 1, maxLocals := 1, code := jdk_42_method_154_code, exceptionTable := #[], attributes := #[] }
def k7m9 : Method := { name := "isLatin1", desc := "()Z", sig := { parameters := [], returnType := some .boolean }, accessFlags := 0, code := some k7c9 }
def k7c10 : Code := { maxStack := 3, maxLocals := 2, code := jdk_42_method_155_code, exceptionTable := #[], attributes := #[] }
def k7m10 : Method := { name := "checkIndex", desc := "(II)V", sig := { parameters := [.int, .int], returnType := none }, accessFlags := 8, code := some k7c10 }
/-- java/lang/String -/
def k7 : Class := { plain "java/lang/String" (some 0) with
  accessFlags := 49
  interfaces := #[2, 3, 4, 5, 6]
  cf := some (fileOf pool7 10 #[.nestMembers #[1103]] #[{ accessFlags := 1, nameIndex := 5, descriptorIndex := 6, attributes := #[] }, { accessFlags := 1, nameIndex := 5, descriptorIndex := 1010, attributes := #[] }, { accessFlags := 1, nameIndex := 507, descriptorIndex := 334, attributes := #[] }, { accessFlags := 1, nameIndex := 692, descriptorIndex := 142, attributes := #[] }, { accessFlags := 1, nameIndex := 497, descriptorIndex := 427, attributes := #[] }, { accessFlags := 1, nameIndex := 543, descriptorIndex := 573, attributes := #[] }, { accessFlags := 1, nameIndex := 630, descriptorIndex := 334, attributes := #[] }, { accessFlags := 2, nameIndex := 5, descriptorIndex := 29, attributes := #[] }, { accessFlags := 0, nameIndex := 17, descriptorIndex := 337, attributes := #[] }, { accessFlags := 0, nameIndex := 494, descriptorIndex := 142, attributes := #[] }, { accessFlags := 8, nameIndex := 501, descriptorIndex := 391, attributes := #[] }] 49 2 #[1106, 1108, 575, 1110, 1112] #[{ accessFlags := 18, nameIndex := 13, descriptorIndex := 14, attributes := #[] }, { accessFlags := 18, nameIndex := 17, descriptorIndex := 18, attributes := #[] }, { accessFlags := 2, nameIndex := 21, descriptorIndex := 22, attributes := #[] }, { accessFlags := 2, nameIndex := 25, descriptorIndex := 26, attributes := #[] }, { accessFlags := 26, nameIndex := 1116, descriptorIndex := 1117, attributes := #[] }, { accessFlags := 24, nameIndex := 40, descriptorIndex := 26, attributes := #[] }, { accessFlags := 26, nameIndex := 1101, descriptorIndex := 1102, attributes := #[] }, { accessFlags := 26, nameIndex := 1121, descriptorIndex := 1122, attributes := #[] }, { accessFlags := 25, nameIndex := 599, descriptorIndex := 600, attributes := #[] }, { accessFlags := 24, nameIndex := 1125, descriptorIndex := 18, attributes := #[] }, { accessFlags := 24, nameIndex := 1127, descriptorIndex := 18, attributes := #[] }])
  fields := #[{ name := "value", type := (.array .byte), accessFlags := 18, slot := 0, constantValue := 0 }, { name := "coder", type := .byte, accessFlags := 18, slot := 1, constantValue := 0 }, { name := "hash", type := .int, accessFlags := 2, slot := 2, constantValue := 0 }, { name := "hashIsZero", type := .boolean, accessFlags := 2, slot := 3, constantValue := 0 }, { name := "serialVersionUID", type := .long, accessFlags := 26, slot := 0, constantValue := 0 }, { name := "COMPACT_STRINGS", type := .boolean, accessFlags := 24, slot := 1, constantValue := 0 }, { name := "serialPersistentFields", type := (.array (.object "java/io/ObjectStreamField")), accessFlags := 26, slot := 2, constantValue := 0 }, { name := "REPL", type := .char, accessFlags := 26, slot := 3, constantValue := 0 }, { name := "CASE_INSENSITIVE_ORDER", type := (.object "java/util/Comparator"), accessFlags := 25, slot := 4, constantValue := 0 }, { name := "LATIN1", type := .byte, accessFlags := 24, slot := 5, constantValue := 0 }, { name := "UTF16", type := .byte, accessFlags := 24, slot := 6, constantValue := 0 }]
  methods := #[k7m0, k7m1, k7m2, k7m3, k7m4, k7m5, k7m6, k7m7, k7m8, k7m9, k7m10]
  instanceTypes := #[(.array .byte), .byte, .int, .boolean]
  staticTypes := #[.long, .boolean, (.array (.object "java/io/ObjectStreamField")), .char, (.object "java/util/Comparator"), .byte, .byte]
  resolved := Array.replicate 1451 none
  statics := some 0 }

def pool8 : Array CpInfo := pool [(6, .class_ 8), (1, u "java/lang/Object"), (0, u "<init>"), (0, u "()V"), (1, .class_ 14), (1, u "java/lang/StringUTF16"), (31, u "$assertionsDisabled"), (0, u "Z"), (13, u "HI_BYTE_SHIFT"), (0, u "I"), (2, u "LO_BYTE_SHIFT"), (49, .methodref 12 116), (0, .nameAndType 117 118), (0, u "compress"), (0, u "([CI[BII)I"), (3, u "([CII)[B"), (138, u "coderFromArrayLen"), (0, u "([BI)B"), (106, .class_ 371), (1, u "java/lang/StringUTF16$LinesSpliterator"), (58, u "MAX_LENGTH"), (196, .class_ 628), (0, u "java/lang/StringUTF16$CodePointsSpliterator"), (0, .class_ 630), (0, u "java/lang/StringUTF16$CharsSpliterator")] 4

def k8m0 : Method := { name := "<init>", desc := "()V", sig := { parameters := [], returnType := none }, accessFlags := 0, code := none }
def k8c1 : Code := { maxStack := 2, maxLocals := 2, code := jdk_52_method_15_code, exceptionTable := #[], attributes := #[] }
def k8m1 : Method := { name := "coderFromArrayLen", desc := "([BI)B", sig := { parameters := [(.array .byte), .int], returnType := some .byte }, accessFlags := 8, code := some k8c1 }
def k8c2 : Code := { maxStack := 5, maxLocals := 6, code := jdk_52_method_16_code, exceptionTable := #[], attributes := #[] }
def k8m2 : Method := { name := "compress", desc := "([CII)[B", sig := { parameters := [(.array .char), .int, .int], returnType := some (.array .byte) }, accessFlags := 9, code := some k8c2 }
def k8c3 : Code := { maxStack := 3, maxLocals := 7, code := jdk_52_method_21_code, exceptionTable := #[], attributes := #[] }
def k8m3 : Method := { name := "compress", desc := "([CI[BII)I", sig := { parameters := [(.array .char), .int, (.array .byte), .int, .int], returnType := some .int }, accessFlags := 9, code := some k8c3 }
/-- java/lang/StringUTF16 -/
def k8 : Class := { plain "java/lang/StringUTF16" (some 0) with
  accessFlags := 48
  interfaces := #[]
  cf := some (fileOf pool8 12 #[.nestMembers #[627, 629, 369]] #[{ accessFlags := 0, nameIndex := 9, descriptorIndex := 10, attributes := #[] }, { accessFlags := 8, nameIndex := 261, descriptorIndex := 262, attributes := #[] }, { accessFlags := 9, nameIndex := 117, descriptorIndex := 122, attributes := #[] }, { accessFlags := 9, nameIndex := 117, descriptorIndex := 118, attributes := #[] }] 48 6 #[] #[{ accessFlags := 26, nameIndex := 61, descriptorIndex := 62, attributes := #[] }, { accessFlags := 26, nameIndex := 65, descriptorIndex := 62, attributes := #[] }, { accessFlags := 24, nameIndex := 430, descriptorIndex := 62, attributes := #[] }, { accessFlags := 4120, nameIndex := 46, descriptorIndex := 47, attributes := #[] }])
  fields := #[{ name := "HI_BYTE_SHIFT", type := .int, accessFlags := 26, slot := 0, constantValue := 0 }, { name := "LO_BYTE_SHIFT", type := .int, accessFlags := 26, slot := 1, constantValue := 0 }, { name := "MAX_LENGTH", type := .int, accessFlags := 24, slot := 2, constantValue := 0 }, { name := "$assertionsDisabled", type := .boolean, accessFlags := 4120, slot := 3, constantValue := 0 }]
  methods := #[k8m0, k8m1, k8m2, k8m3]
  instanceTypes := #[]
  staticTypes := #[.int, .int, .int, .boolean]
  resolved := Array.replicate 635 none
  statics := none }

def pool9 : Array CpInfo := pool [(1, .methodref 2 3), (0, .class_ 4), (0, .nameAndType 5 6), (0, u "java/lang/Object"), (0, u "<init>"), (0, u "()V"), (0, .fieldref 8 9), (0, .class_ 10), (0, .nameAndType 11 12), (0, u "com/example/woven_feed/wovenfeed/AccountId"), (0, u "value"), (0, u "Ljava/lang/String;"), (0, .string 14), (0, u "text"), (0, .methodref 16 17), (0, .class_ 18), (0, .nameAndType 19 20), (0, u "java/util/Objects"), (0, u "requireNonNull"), (0, u "(Ljava/lang/Object;Ljava/lang/String;)Ljava/lang/Object;"), (0, .methodref 22 23), (0, .class_ 24), (0, .nameAndType 25 26), (0, u "java/lang/String"), (0, u "isEmpty"), (0, u "()Z"), (5, .nameAndType 5 33), (0, u "(Ljava/lang/String;)V"), (0, .methodref 22 35), (0, .nameAndType 36 37), (0, u "length"), (0, u "()I"), (2, .methodref 22 41), (0, .nameAndType 42 43), (0, u "charAt"), (0, u "(I)C"), (0, .methodref 8 45), (0, .nameAndType 46 47), (0, u "isIdCharacter"), (0, u "(C)Z"), (4, .methodref 8 32), (0, .methodref 22 54), (0, .nameAndType 55 56), (0, u "equals"), (0, u "(Ljava/lang/Object;)Z"), (0, .methodref 22 58), (0, .nameAndType 59 37), (0, u "hashCode"), (0, u "MAX_LENGTH"), (0, u "I"), (4, u "of"), (0, u "(Ljava/lang/String;)Lcom/example/woven_feed/wovenfeed/AccountId;"), (1, u "toString"), (0, u "()Ljava/lang/String;")] 17

def k9c0 : Code := { maxStack := 2, maxLocals := 2, code := prog_1_method_1_code, exceptionTable := #[], attributes := #[] }
def k9m0 : Method := { name := "<init>", desc := "(Ljava/lang/String;)V", sig := { parameters := [(.object "java/lang/String")], returnType := none }, accessFlags := 2, code := some k9c0 }
def k9c1 : Code := { maxStack := 4, maxLocals := 2, code := prog_1_method_2_code, exceptionTable := #[], attributes := #[] }
def k9m1 : Method := { name := "of", desc := "(Ljava/lang/String;)Lcom/example/woven_feed/wovenfeed/AccountId;", sig := { parameters := [(.object "java/lang/String")], returnType := some (.object "com/example/woven_feed/wovenfeed/AccountId") }, accessFlags := 9, code := some k9c1 }
def k9c2 : Code := { maxStack := 2, maxLocals := 1, code := prog_1_method_3_code, exceptionTable := #[], attributes := #[] }
def k9m2 : Method := { name := "isIdCharacter", desc := "(C)Z", sig := { parameters := [.char], returnType := some .boolean }, accessFlags := 10, code := some k9c2 }
def k9c3 : Code := { maxStack := 2, maxLocals := 2, code := prog_1_method_4_code, exceptionTable := #[], attributes := #[] }
def k9m3 : Method := { name := "equals", desc := "(Ljava/lang/Object;)Z", sig := { parameters := [(.object "java/lang/Object")], returnType := some .boolean }, accessFlags := 1, code := some k9c3 }
def k9c4 : Code := { maxStack := 1, maxLocals := 1, code := prog_1_method_5_code, exceptionTable := #[], attributes := #[] }
def k9m4 : Method := { name := "hashCode", desc := "()I", sig := { parameters := [], returnType := some .int }, accessFlags := 1, code := some k9c4 }
def k9c5 : Code := { maxStack := 1, maxLocals := 1, code := prog_1_method_6_code, exceptionTable := #[], attributes := #[] }
def k9m5 : Method := { name := "toString", desc := "()Ljava/lang/String;", sig := { parameters := [], returnType := some (.object "java/lang/String") }, accessFlags := 1, code := some k9c5 }
/-- com/example/woven_feed/wovenfeed/AccountId -/
def k9 : Class := { plain "com/example/woven_feed/wovenfeed/AccountId" (some 0) with
  accessFlags := 49
  interfaces := #[]
  cf := some (fileOf pool9 8 #[] #[{ accessFlags := 2, nameIndex := 5, descriptorIndex := 33, attributes := #[] }, { accessFlags := 9, nameIndex := 66, descriptorIndex := 67, attributes := #[] }, { accessFlags := 10, nameIndex := 46, descriptorIndex := 47, attributes := #[] }, { accessFlags := 1, nameIndex := 55, descriptorIndex := 56, attributes := #[] }, { accessFlags := 1, nameIndex := 59, descriptorIndex := 37, attributes := #[] }, { accessFlags := 1, nameIndex := 69, descriptorIndex := 70, attributes := #[] }] 49 2 #[] #[{ accessFlags := 25, nameIndex := 60, descriptorIndex := 61, attributes := #[] }, { accessFlags := 18, nameIndex := 11, descriptorIndex := 12, attributes := #[] }])
  fields := #[{ name := "MAX_LENGTH", type := .int, accessFlags := 25, slot := 0, constantValue := 0 }, { name := "value", type := (.object "java/lang/String"), accessFlags := 18, slot := 0, constantValue := 0 }]
  methods := #[k9m0, k9m1, k9m2, k9m3, k9m4, k9m5]
  instanceTypes := #[(.object "java/lang/String")]
  staticTypes := #[.int]
  resolved := Array.replicate 88 none
  statics := none }

def pool10 : Array CpInfo := pool [(2, .class_ 4), (1, u "java/lang/Object"), (0, u "<init>"), (0, u "()V"), (35, .class_ 44), (1, u "java/util/Objects"), (0, u "requireNonNull"), (48, u "(Ljava/lang/Object;Ljava/lang/String;)Ljava/lang/Object;")] 89

def k10m0 : Method := { name := "<init>", desc := "()V", sig := { parameters := [], returnType := none }, accessFlags := 2, code := none }
def k10c1 : Code := { maxStack := 3, maxLocals := 2, code := jdk_31_method_11_code, exceptionTable := #[], attributes := #[] }
def k10m1 : Method := { name := "requireNonNull", desc := "(Ljava/lang/Object;Ljava/lang/String;)Ljava/lang/Object;", sig := { parameters := [(.object "java/lang/Object"), (.object "java/lang/String")], returnType := some (.object "java/lang/Object") }, accessFlags := 9, code := some k10c1 }
/-- java/util/Objects -/
def k10 : Class := { plain "java/util/Objects" (some 0) with
  accessFlags := 49
  interfaces := #[]
  cf := some (fileOf pool10 42 #[] #[{ accessFlags := 2, nameIndex := 5, descriptorIndex := 6, attributes := #[] }, { accessFlags := 9, nameIndex := 45, descriptorIndex := 94, attributes := #[] }] 49 2 #[] #[])
  fields := #[]
  methods := #[k10m0, k10m1]
  instanceTypes := #[]
  staticTypes := #[]
  resolved := Array.replicate 184 none
  statics := none }

def pool11 : Array CpInfo := pool [(1, .class_ 2), (0, u "java/lang/String"), (1, .class_ 6), (1, u "java/lang/Object"), (0, u "<init>"), (0, u "()V"), (0, .methodref 1 10), (0, .nameAndType 11 12), (0, u "checkIndex"), (0, u "(II)V"), (1, .class_ 16), (1, u "java/lang/StringLatin1"), (28, .class_ 47), (1, u "jdk/internal/util/ArraysSupport"), (5, u "([BI)C"), (3, u "([B)I"), (26, .methodref 45 85), (0, .nameAndType 86 87), (0, u "vectorizedHashCode"), (0, u "(Ljava/lang/Object;IIII)I"), (33, u "$assertionsDisabled"), (0, u "Z"), (98, .class_ 223), (1, u "java/lang/StringLatin1$LinesSpliterator"), (28, u "charAt"), (28, u "equals"), (0, u "([B[B)Z"), (15, u "hashCode"), (91, .class_ 391), (0, u "java/lang/StringLatin1$CharsSpliterator")] 3

def k11m0 : Method := { name := "<init>", desc := "()V", sig := { parameters := [], returnType := none }, accessFlags := 0, code := none }
def k11c1 : Code := { maxStack := 2, maxLocals := 2, code := jdk_43_method_2_code, exceptionTable := #[], attributes := #[] }
def k11m1 : Method := { name := "charAt", desc := "([BI)C", sig := { parameters := [(.array .byte), .int], returnType := some .char }, accessFlags := 9, code := some k11c1 }
def k11c2 : Code := { maxStack := 3, maxLocals := 3, code := jdk_43_method_13_code, exceptionTable := #[], attributes := #[] }
def k11m2 : Method := { name := "equals", desc := "([B[B)Z", sig := { parameters := [(.array .byte), (.array .byte)], returnType := some .boolean }, accessFlags := 9, code := some k11c2 }
def k11c3 : Code := { maxStack := 5, maxLocals := 1, code := jdk_43_method_21_code, exceptionTable := #[], attributes := #[] }
def k11m3 : Method := { name := "hashCode", desc := "([B)I", sig := { parameters := [(.array .byte)], returnType := some .int }, accessFlags := 9, code := some k11c3 }
/-- java/lang/StringLatin1 -/
def k11 : Class := { plain "java/lang/StringLatin1" (some 0) with
  accessFlags := 48
  interfaces := #[]
  cf := some (fileOf pool11 14 #[.nestMembers #[390, 221]] #[{ accessFlags := 0, nameIndex := 7, descriptorIndex := 8, attributes := #[] }, { accessFlags := 9, nameIndex := 252, descriptorIndex := 53, attributes := #[] }, { accessFlags := 9, nameIndex := 281, descriptorIndex := 282, attributes := #[] }, { accessFlags := 9, nameIndex := 298, descriptorIndex := 57, attributes := #[] }] 48 4 #[] #[{ accessFlags := 4120, nameIndex := 121, descriptorIndex := 122, attributes := #[] }])
  fields := #[{ name := "$assertionsDisabled", type := .boolean, accessFlags := 4120, slot := 0, constantValue := 0 }]
  methods := #[k11m0, k11m1, k11m2, k11m3]
  instanceTypes := #[]
  staticTypes := #[.boolean]
  resolved := Array.replicate 395 none
  statics := none }

def pool12 : Array CpInfo := pool [(2, .class_ 4), (1, u "java/lang/Object"), (0, u "<init>"), (0, u "()V"), (17, .class_ 26), (1, u "jdk/internal/util/Preconditions"), (6, u "checkIndex"), (21, .class_ 56), (0, u "jdk/internal/util/Preconditions$4"), (57, .class_ 115), (0, u "jdk/internal/util/Preconditions$1"), (7, u "SIOOBE_FORMATTER"), (0, u "Ljava/util/function/BiFunction;"), (0, .class_ 126), (0, u "jdk/internal/util/Preconditions$2"), (3, u "AIOOBE_FORMATTER"), (0, .class_ 132), (0, u "jdk/internal/util/Preconditions$3"), (3, u "IOOBE_FORMATTER"), (41, u "(IILjava/util/function/BiFunction;)I")] 15

def k12m0 : Method := { name := "<init>", desc := "()V", sig := { parameters := [], returnType := none }, accessFlags := 1, code := none }
def k12c1 : Code := { maxStack := 3, maxLocals := 3, code := jdk_41_method_11_code, exceptionTable := #[], attributes := #[] }
def k12m1 : Method := { name := "checkIndex", desc := "(IILjava/util/function/BiFunction;)I", sig := { parameters := [.int, .int, (.object "java/util/function/BiFunction")], returnType := some .int }, accessFlags := 9, code := some k12c1 }
/-- jdk/internal/util/Preconditions -/
def k12 : Class := { plain "jdk/internal/util/Preconditions" (some 0) with
  accessFlags := 33
  interfaces := #[]
  cf := some (fileOf pool12 24 #[.nestMembers #[55, 131, 125, 114]] #[{ accessFlags := 1, nameIndex := 5, descriptorIndex := 6, attributes := #[] }, { accessFlags := 9, nameIndex := 33, descriptorIndex := 178, attributes := #[] }] 33 2 #[] #[{ accessFlags := 25, nameIndex := 123, descriptorIndex := 124, attributes := #[] }, { accessFlags := 25, nameIndex := 130, descriptorIndex := 124, attributes := #[] }, { accessFlags := 25, nameIndex := 136, descriptorIndex := 124, attributes := #[] }])
  fields := #[{ name := "SIOOBE_FORMATTER", type := (.object "java/util/function/BiFunction"), accessFlags := 25, slot := 0, constantValue := 0 }, { name := "AIOOBE_FORMATTER", type := (.object "java/util/function/BiFunction"), accessFlags := 25, slot := 1, constantValue := 0 }, { name := "IOOBE_FORMATTER", type := (.object "java/util/function/BiFunction"), accessFlags := 25, slot := 2, constantValue := 0 }]
  methods := #[k12m0, k12m1]
  instanceTypes := #[]
  staticTypes := #[(.object "java/util/function/BiFunction"), (.object "java/util/function/BiFunction"), (.object "java/util/function/BiFunction")]
  resolved := Array.replicate 194 none
  statics := some 1 }

def pool13 : Array CpInfo := pool [(9, u "<init>"), (6, .class_ 18), (1, u "java/lang/Object"), (0, u "()V"), (1, .class_ 23), (1, u "jdk/internal/util/ArraysSupport"), (0, u "LOG2_ARRAY_LONG_INDEX_SCALE"), (0, u "I"), (2, u "U"), (0, u "Ljdk/internal/misc/Unsafe;"), (8, u "BIG_ENDIAN"), (0, u "Z"), (8, u "LOG2_BYTE_BIT_SIZE"), (4, u "LOG2_ARRAY_INT_INDEX_SCALE"), (6, .class_ 61), (0, u "[B"), (0, .methodref 21 63), (0, .nameAndType 64 65), (0, u "signedHashCode"), (0, u "(I[BII)I"), (42, u "JLA"), (0, u "Ljdk/internal/access/JavaLangAccess;"), (11, u "LOG2_ARRAY_BOOLEAN_INDEX_SCALE"), (9, u "LOG2_ARRAY_BYTE_INDEX_SCALE"), (5, u "LOG2_ARRAY_CHAR_INDEX_SCALE"), (5, u "LOG2_ARRAY_SHORT_INDEX_SCALE"), (18, u "LOG2_ARRAY_FLOAT_INDEX_SCALE"), (24, u "LOG2_ARRAY_DOUBLE_INDEX_SCALE"), (89, u "T_BOOLEAN"), (2, u "T_CHAR"), (1, u "T_FLOAT"), (1, u "T_DOUBLE"), (1, u "T_BYTE"), (1, u "T_SHORT"), (1, u "T_INT"), (1, u "T_LONG"), (1, u "SOFT_MAX_ARRAY_LENGTH"), (26, u "vectorizedHashCode"), (0, u "(Ljava/lang/Object;IIII)I")] 55

def k13m0 : Method := { name := "<init>", desc := "()V", sig := { parameters := [], returnType := none }, accessFlags := 2, code := none }
def k13c1 : Code := { maxStack := 4, maxLocals := 5, code := jdk_48_method_4_code, exceptionTable := #[], attributes := #[] }
def k13m1 : Method := { name := "vectorizedHashCode", desc := "(Ljava/lang/Object;IIII)I", sig := { parameters := [(.object "java/lang/Object"), .int, .int, .int, .int], returnType := some .int }, accessFlags := 9, code := some k13c1 }
def k13c2 : Code := { maxStack := 3, maxLocals := 6, code := jdk_48_method_5_code, exceptionTable := #[], attributes := #[] }
def k13m2 : Method := { name := "signedHashCode", desc := "(I[BII)I", sig := { parameters := [.int, (.array .byte), .int, .int], returnType := some .int }, accessFlags := 10, code := some k13c2 }
/-- jdk/internal/util/ArraysSupport -/
def k13 : Class := { plain "jdk/internal/util/ArraysSupport" (some 0) with
  accessFlags := 33
  interfaces := #[]
  cf := some (fileOf pool13 21 #[] #[{ accessFlags := 2, nameIndex := 9, descriptorIndex := 19, attributes := #[] }, { accessFlags := 9, nameIndex := 321, descriptorIndex := 322, attributes := #[] }, { accessFlags := 10, nameIndex := 64, descriptorIndex := 65, attributes := #[] }] 33 16 #[] #[{ accessFlags := 24, nameIndex := 28, descriptorIndex := 29, attributes := #[] }, { accessFlags := 26, nameIndex := 38, descriptorIndex := 39, attributes := #[] }, { accessFlags := 25, nameIndex := 121, descriptorIndex := 25, attributes := #[] }, { accessFlags := 25, nameIndex := 131, descriptorIndex := 25, attributes := #[] }, { accessFlags := 25, nameIndex := 137, descriptorIndex := 25, attributes := #[] }, { accessFlags := 25, nameIndex := 143, descriptorIndex := 25, attributes := #[] }, { accessFlags := 25, nameIndex := 53, descriptorIndex := 25, attributes := #[] }, { accessFlags := 25, nameIndex := 24, descriptorIndex := 25, attributes := #[] }, { accessFlags := 25, nameIndex := 162, descriptorIndex := 25, attributes := #[] }, { accessFlags := 25, nameIndex := 187, descriptorIndex := 25, attributes := #[] }, { accessFlags := 26, nameIndex := 48, descriptorIndex := 25, attributes := #[] }, { accessFlags := 25, nameIndex := 277, descriptorIndex := 25, attributes := #[] }, { accessFlags := 25, nameIndex := 280, descriptorIndex := 25, attributes := #[] }, { accessFlags := 25, nameIndex := 282, descriptorIndex := 25, attributes := #[] }, { accessFlags := 25, nameIndex := 284, descriptorIndex := 25, attributes := #[] }, { accessFlags := 25, nameIndex := 286, descriptorIndex := 25, attributes := #[] }, { accessFlags := 25, nameIndex := 288, descriptorIndex := 25, attributes := #[] }, { accessFlags := 25, nameIndex := 290, descriptorIndex := 25, attributes := #[] }, { accessFlags := 25, nameIndex := 292, descriptorIndex := 25, attributes := #[] }, { accessFlags := 26, nameIndex := 108, descriptorIndex := 109, attributes := #[] }, { accessFlags := 25, nameIndex := 294, descriptorIndex := 25, attributes := #[] }])
  fields := #[{ name := "U", type := (.object "jdk/internal/misc/Unsafe"), accessFlags := 24, slot := 0, constantValue := 0 }, { name := "BIG_ENDIAN", type := .boolean, accessFlags := 26, slot := 1, constantValue := 0 }, { name := "LOG2_ARRAY_BOOLEAN_INDEX_SCALE", type := .int, accessFlags := 25, slot := 2, constantValue := 0 }, { name := "LOG2_ARRAY_BYTE_INDEX_SCALE", type := .int, accessFlags := 25, slot := 3, constantValue := 0 }, { name := "LOG2_ARRAY_CHAR_INDEX_SCALE", type := .int, accessFlags := 25, slot := 4, constantValue := 0 }, { name := "LOG2_ARRAY_SHORT_INDEX_SCALE", type := .int, accessFlags := 25, slot := 5, constantValue := 0 }, { name := "LOG2_ARRAY_INT_INDEX_SCALE", type := .int, accessFlags := 25, slot := 6, constantValue := 0 }, { name := "LOG2_ARRAY_LONG_INDEX_SCALE", type := .int, accessFlags := 25, slot := 7, constantValue := 0 }, { name := "LOG2_ARRAY_FLOAT_INDEX_SCALE", type := .int, accessFlags := 25, slot := 8, constantValue := 0 }, { name := "LOG2_ARRAY_DOUBLE_INDEX_SCALE", type := .int, accessFlags := 25, slot := 9, constantValue := 0 }, { name := "LOG2_BYTE_BIT_SIZE", type := .int, accessFlags := 26, slot := 10, constantValue := 0 }, { name := "T_BOOLEAN", type := .int, accessFlags := 25, slot := 11, constantValue := 0 }, { name := "T_CHAR", type := .int, accessFlags := 25, slot := 12, constantValue := 0 }, { name := "T_FLOAT", type := .int, accessFlags := 25, slot := 13, constantValue := 0 }, { name := "T_DOUBLE", type := .int, accessFlags := 25, slot := 14, constantValue := 0 }, { name := "T_BYTE", type := .int, accessFlags := 25, slot := 15, constantValue := 0 }, { name := "T_SHORT", type := .int, accessFlags := 25, slot := 16, constantValue := 0 }, { name := "T_INT", type := .int, accessFlags := 25, slot := 17, constantValue := 0 }, { name := "T_LONG", type := .int, accessFlags := 25, slot := 18, constantValue := 0 }, { name := "JLA", type := (.object "jdk/internal/access/JavaLangAccess"), accessFlags := 26, slot := 19, constantValue := 0 }, { name := "SOFT_MAX_ARRAY_LENGTH", type := .int, accessFlags := 25, slot := 20, constantValue := 0 }]
  methods := #[k13m0, k13m1, k13m2]
  instanceTypes := #[]
  staticTypes := #[(.object "jdk/internal/misc/Unsafe"), .boolean, .int, .int, .int, .int, .int, .int, .int, .int, .int, .int, .int, .int, .int, .int, .int, .int, .int, (.object "jdk/internal/access/JavaLangAccess"), .int]
  resolved := Array.replicate 378 none
  statics := none }

def pool14 : Array CpInfo := pool [(1, u "java/lang/Cloneable"), (0, .class_ 1), (0, u "java/lang/Object"), (0, .class_ 3)] 3

/-- java/lang/Cloneable -/
def k14 : Class := { plain "java/lang/Cloneable" (some 0) with
  accessFlags := 1537
  interfaces := #[]
  cf := some (fileOf pool14 2 #[] #[] 1537 4 #[] #[])
  fields := #[]
  methods := #[]
  instanceTypes := #[]
  staticTypes := #[]
  resolved := Array.replicate 8 none
  statics := none }

/-- the primitive byte -/
def k15 : Class := { plain "byte" none with kind := .primitive 'B', accessFlags := 0x411 }
/-- [B -/
def k16 : Class := { plain "[B" (some 0) with kind := .array 15 .byte, interfaces := #[14, 2], accessFlags := 1041 }

/-- the primitive char -/
def k17 : Class := { plain "char" none with kind := .primitive 'C', accessFlags := 0x411 }
/-- [C -/
def k18 : Class := { plain "[C" (some 0) with kind := .array 17 .char, interfaces := #[14, 2], accessFlags := 1041 }

/-- the primitive int -/
def k19 : Class := { plain "int" none with kind := .primitive 'I', accessFlags := 0x411 }
/-- [I -/
def k20 : Class := { plain "[I" (some 0) with kind := .array 19 .int, interfaces := #[14, 2], accessFlags := 1041 }

def heap : Heap := #[{ cls := 7, slots := #[.long 0, .int 1, .null, .int 0, .null, .int 0, .int 0], vm := .statics 7 },
  { cls := 12, slots := #[.null, .null, .null], vm := .statics 12 }]
def classes : Array Class := #[k0, k1, k2, k3, k4, k5, k6, k7, k8, k9, k10, k11, k12, k13, k14, k15, k16, k17, k18, k19, k20]
def interned : List (Array UInt16 × Addr) := []
def slotsUsed : Nat := 10
def theMethod : MethodId := ⟨1, 3⟩
def args0 : Array Value := #[.int 5, .int 5, .int 5, .int 5, .int 5, .int 5]
def aboutOver (below : List Frame) : State where
  vm := { classes := classes, interned := interned.toArray }
  heap := heap
  slotsUsed := slotsUsed
  threads := #[{ frames := .invoking theMethod args0 :: below }]
def below0 : List Frame := [.native { method := ⟨0, 0⟩, args := #[] }]
def about1 : State := aboutOver below0
def p0 : Program := .bare "" "" ""
def e0 : Env := launch0.env 0 0 0
theorem w_frames : about1.frames = Frame.invoking theMethod args0 :: below0 := rfl
set_option maxRecDepth 65536 in
theorem w_args : argsFit about1.vm theMethod args0 = true := by decide +kernel
set_option maxRecDepth 65536 in
theorem w_heap : heapFits about1 = true := by decide +kernel
set_option maxRecDepth 65536 in
theorem w_runnable : about1.curStatus? = some .runnable := by decide +kernel
set_option maxRecDepth 65536 in
theorem w_alone : about1.alone = true := by decide +kernel
set_option maxRecDepth 65536 in
theorem w_named : about1.methodNamed? x = some theMethod := by decide +kernel
set_option maxRecDepth 65536 in
theorem w_hears : about1.hears theMethod below0 = true := by decide +kernel
set_option maxRecDepth 65536 in
theorem w_ripe : about1.ripe theMethod args0 below0 = true := by decide +kernel
theorem w_running : about1.status = .running := rfl
set_option maxRecDepth 65536 in
theorem w_room : about1.hasRoom e0.platform room_1 = true :=
  launch0.hasRoom_least _ room_1 (by decide +kernel) (by decide +kernel) (by decide +kernel) (by decide +kernel) (by decide +kernel) (by decide +kernel)
theorem allAtoms_all (ts : List Jvm.Cond) (a : Array Jvm.Value) (st : Jvm.State) : (allAtoms ts).before a st = ts.all (fun c => c.before a st) := by
  induction ts with
  | nil => rfl
  | cons c t ih =>
    show (Jvm.Cond.and c (allAtoms t)).before a st = _
    rw [Jvm.Cond.before_and, ih, List.all_cons]
def words1 : List Jvm.Cond := Jvm.Cond.code x code maxLocals ret :: tables_1
/-- a 'code' word, met by the world's own term for the bytes: nothing is compared byte by byte -/
theorem code_word {y : MethodName} {bytes : ByteArray} {mx : Nat} {rt : Option FieldType} {a : Array Value} {s : State} {m : MethodId} {meth : Method} {c : Code} (h1 : s.methodNamed? y = some m) (h2 : s.vm.method? m = some meth) (h3 : meth.code = some c) (h4 : c.code = bytes)
    (h5 : (c.maxLocals == mx && c.exceptionTable.isEmpty && decide (c.maxStack ≤ mostOperands) && decide (meth.sig.returnType = rt) && !meth.locks && decide (parseMethodDescriptor y.desc = some meth.sig)) = true) : (Jvm.Cond.code y bytes mx rt).before a s = true := by
  simp only [Bool.and_eq_true, beq_iff_eq, Bool.not_eq_true', decide_eq_true_eq] at h5
  obtain ⟨⟨⟨⟨⟨g1, g2⟩, g3⟩, g4⟩, g5⟩, g6⟩ := h5
  simp [Cond.before, Cond.holds, Cond.value, h1, h2, h3, h4, g1, g2, g3, g4, g5, g6]
def isCode : Jvm.Cond → Bool
  | .code _ _ _ _ => true
  | _ => false
theorem all_split {L : List Jvm.Cond} {P : Jvm.Cond → Bool} (h1 : L.all (fun c => isCode c || P c) = true) (h2 : ∀ c ∈ L.filter isCode, P c = true) : L.all P = true := by
  refine List.all_eq_true.mpr fun c hc => ?_
  have h := List.all_eq_true.mp h1 c hc
  rcases Bool.eq_false_or_eq_true (isCode c) with hi | hi
  · exact h2 c (List.mem_filter.mpr ⟨hc, hi⟩)
  · simpa [hi] using h
set_option maxRecDepth 65536 in
theorem w_c0 : (Jvm.Cond.code x code maxLocals ret).before args0 about1 = true := code_word (m := ⟨1, 3⟩) (meth := k1m3) (c := k1c3) (by decide +kernel) rfl rfl rfl (by decide +kernel)
set_option maxRecDepth 65536 in
theorem w_c1 : (Jvm.Cond.code ({ cls := "com/example/woven_feed/wovenfeed/AccountIdOfPinLaw", name := "ch", desc := "(I)C" } : Jvm.MethodName) method_2_code (2 : Nat) (Option.some Jvm.ClassFile.FieldType.char)).before args0 about1 = true := code_word (m := ⟨1, 1⟩) (meth := k1m1) (c := k1c1) (by decide +kernel) rfl rfl rfl (by decide +kernel)
set_option maxRecDepth 65536 in
theorem w_c2 : (Jvm.Cond.code ({ cls := "com/example/woven_feed/wovenfeed/AccountIdOfPinLaw", name := "make", desc := "(ICCCC)[C" } : Jvm.MethodName) method_3_code (5 : Nat) (Option.some (Jvm.ClassFile.FieldType.array Jvm.ClassFile.FieldType.char))).before args0 about1 = true := code_word (m := ⟨1, 2⟩) (meth := k1m2) (c := k1c2) (by decide +kernel) rfl rfl rfl (by decide +kernel)
set_option maxRecDepth 65536 in
theorem w_c3 : (Jvm.Cond.code ({ cls := "java/lang/String", name := "<init>", desc := "([C)V" } : Jvm.MethodName) jdk_42_method_3_code (2 : Nat) (Option.none : Option Jvm.ClassFile.FieldType)).before args0 about1 = true := code_word (m := ⟨7, 1⟩) (meth := k7m1) (c := k7c1) (by decide +kernel) rfl rfl rfl (by decide +kernel)
set_option maxRecDepth 65536 in
theorem w_c4 : (Jvm.Cond.code ({ cls := "java/lang/String", name := "<init>", desc := "([CIILjava/lang/Void;)V" } : Jvm.MethodName) jdk_42_method_149_code (6 : Nat) (Option.none : Option Jvm.ClassFile.FieldType)).before args0 about1 = true := code_word (m := ⟨7, 7⟩) (meth := k7m7) (c := k7c7) (by decide +kernel) rfl rfl rfl (by decide +kernel)
set_option maxRecDepth 65536 in
theorem w_c5 : (Jvm.Cond.code ({ cls := "java/lang/Object", name := "<init>", desc := "()V" } : Jvm.MethodName) object_method_1_code (1 : Nat) (Option.none : Option Jvm.ClassFile.FieldType)).before args0 about1 = true := code_word (m := ⟨0, 0⟩) (meth := k0m0) (c := k0c0) (by decide +kernel) rfl rfl rfl (by decide +kernel)
set_option maxRecDepth 65536 in
theorem w_c6 : (Jvm.Cond.code ({ cls := "java/lang/StringUTF16", name := "compress", desc := "([CII)[B" } : Jvm.MethodName) jdk_52_method_16_code (6 : Nat) (Option.some (Jvm.ClassFile.FieldType.array Jvm.ClassFile.FieldType.byte))).before args0 about1 = true := code_word (m := ⟨8, 2⟩) (meth := k8m2) (c := k8c2) (by decide +kernel) rfl rfl rfl (by decide +kernel)
set_option maxRecDepth 65536 in
theorem w_c7 : (Jvm.Cond.code ({ cls := "java/lang/StringUTF16", name := "compress", desc := "([CI[BII)I" } : Jvm.MethodName) jdk_52_method_21_code (7 : Nat) (Option.some Jvm.ClassFile.FieldType.int)).before args0 about1 = true := code_word (m := ⟨8, 3⟩) (meth := k8m3) (c := k8c3) (by decide +kernel) rfl rfl rfl (by decide +kernel)
set_option maxRecDepth 65536 in
theorem w_c8 : (Jvm.Cond.code ({ cls := "java/lang/StringUTF16", name := "coderFromArrayLen", desc := "([BI)B" } : Jvm.MethodName) jdk_52_method_15_code (2 : Nat) (Option.some Jvm.ClassFile.FieldType.byte)).before args0 about1 = true := code_word (m := ⟨8, 1⟩) (meth := k8m1) (c := k8c1) (by decide +kernel) rfl rfl rfl (by decide +kernel)
set_option maxRecDepth 65536 in
theorem w_c9 : (Jvm.Cond.code ({ cls := "com/example/woven_feed/wovenfeed/AccountId", name := "of", desc := "(Ljava/lang/String;)Lcom/example/woven_feed/wovenfeed/AccountId;" } : Jvm.MethodName) prog_1_method_2_code (2 : Nat) (Option.some (Jvm.ClassFile.FieldType.object "com/example/woven_feed/wovenfeed/AccountId"))).before args0 about1 = true := code_word (m := ⟨9, 1⟩) (meth := k9m1) (c := k9c1) (by decide +kernel) rfl rfl rfl (by decide +kernel)
set_option maxRecDepth 65536 in
theorem w_c10 : (Jvm.Cond.code ({ cls := "java/util/Objects", name := "requireNonNull", desc := "(Ljava/lang/Object;Ljava/lang/String;)Ljava/lang/Object;" } : Jvm.MethodName) jdk_31_method_11_code (2 : Nat) (Option.some (Jvm.ClassFile.FieldType.object "java/lang/Object"))).before args0 about1 = true := code_word (m := ⟨10, 1⟩) (meth := k10m1) (c := k10c1) (by decide +kernel) rfl rfl rfl (by decide +kernel)
set_option maxRecDepth 65536 in
theorem w_c11 : (Jvm.Cond.code ({ cls := "java/lang/String", name := "isEmpty", desc := "()Z" } : Jvm.MethodName) jdk_42_method_55_code (1 : Nat) (Option.some Jvm.ClassFile.FieldType.boolean)).before args0 about1 = true := code_word (m := ⟨7, 3⟩) (meth := k7m3) (c := k7c3) (by decide +kernel) rfl rfl rfl (by decide +kernel)
set_option maxRecDepth 65536 in
theorem w_c12 : (Jvm.Cond.code ({ cls := "java/lang/String", name := "length", desc := "()I" } : Jvm.MethodName) jdk_42_method_54_code (1 : Nat) (Option.some Jvm.ClassFile.FieldType.int)).before args0 about1 = true := code_word (m := ⟨7, 2⟩) (meth := k7m2) (c := k7c2) (by decide +kernel) rfl rfl rfl (by decide +kernel)
set_option maxRecDepth 65536 in
theorem w_c13 : (Jvm.Cond.code ({ cls := "java/lang/String", name := "coder", desc := "()B" } : Jvm.MethodName) jdk_42_method_152_code (1 : Nat) (Option.some Jvm.ClassFile.FieldType.byte)).before args0 about1 = true := code_word (m := ⟨7, 8⟩) (meth := k7m8) (c := k7c8) (by decide +kernel) rfl rfl rfl (by decide +kernel)
set_option maxRecDepth 65536 in
theorem w_c14 : (Jvm.Cond.code ({ cls := "java/lang/String", name := "charAt", desc := "(I)C" } : Jvm.MethodName) jdk_42_method_56_code (2 : Nat) (Option.some Jvm.ClassFile.FieldType.char)).before args0 about1 = true := code_word (m := ⟨7, 4⟩) (meth := k7m4) (c := k7c4) (by decide +kernel) rfl rfl rfl (by decide +kernel)
set_option maxRecDepth 65536 in
theorem w_c15 : (Jvm.Cond.code ({ cls := "java/lang/String", name := "isLatin1", desc := "()Z" } : Jvm.MethodName) jdk_42_method_154_code (1 : Nat) (Option.some Jvm.ClassFile.FieldType.boolean)).before args0 about1 = true := code_word (m := ⟨7, 9⟩) (meth := k7m9) (c := k7c9) (by decide +kernel) rfl rfl rfl (by decide +kernel)
set_option maxRecDepth 65536 in
theorem w_c16 : (Jvm.Cond.code ({ cls := "java/lang/StringLatin1", name := "charAt", desc := "([BI)C" } : Jvm.MethodName) jdk_43_method_2_code (2 : Nat) (Option.some Jvm.ClassFile.FieldType.char)).before args0 about1 = true := code_word (m := ⟨11, 1⟩) (meth := k11m1) (c := k11c1) (by decide +kernel) rfl rfl rfl (by decide +kernel)
set_option maxRecDepth 65536 in
theorem w_c17 : (Jvm.Cond.code ({ cls := "java/lang/String", name := "checkIndex", desc := "(II)V" } : Jvm.MethodName) jdk_42_method_155_code (2 : Nat) (Option.none : Option Jvm.ClassFile.FieldType)).before args0 about1 = true := code_word (m := ⟨7, 10⟩) (meth := k7m10) (c := k7c10) (by decide +kernel) rfl rfl rfl (by decide +kernel)
set_option maxRecDepth 65536 in
theorem w_c18 : (Jvm.Cond.code ({ cls := "jdk/internal/util/Preconditions", name := "checkIndex", desc := "(IILjava/util/function/BiFunction;)I" } : Jvm.MethodName) jdk_41_method_11_code (3 : Nat) (Option.some Jvm.ClassFile.FieldType.int)).before args0 about1 = true := code_word (m := ⟨12, 1⟩) (meth := k12m1) (c := k12c1) (by decide +kernel) rfl rfl rfl (by decide +kernel)
set_option maxRecDepth 65536 in
theorem w_c19 : (Jvm.Cond.code ({ cls := "com/example/woven_feed/wovenfeed/AccountId", name := "isIdCharacter", desc := "(C)Z" } : Jvm.MethodName) prog_1_method_3_code (1 : Nat) (Option.some Jvm.ClassFile.FieldType.boolean)).before args0 about1 = true := code_word (m := ⟨9, 2⟩) (meth := k9m2) (c := k9c2) (by decide +kernel) rfl rfl rfl (by decide +kernel)
set_option maxRecDepth 65536 in
theorem w_c20 : (Jvm.Cond.code ({ cls := "com/example/woven_feed/wovenfeed/AccountId", name := "<init>", desc := "(Ljava/lang/String;)V" } : Jvm.MethodName) prog_1_method_1_code (2 : Nat) (Option.none : Option Jvm.ClassFile.FieldType)).before args0 about1 = true := code_word (m := ⟨9, 0⟩) (meth := k9m0) (c := k9c0) (by decide +kernel) rfl rfl rfl (by decide +kernel)
set_option maxRecDepth 65536 in
theorem w_c21 : (Jvm.Cond.code ({ cls := "com/example/woven_feed/wovenfeed/AccountId", name := "toString", desc := "()Ljava/lang/String;" } : Jvm.MethodName) prog_1_method_6_code (1 : Nat) (Option.some (Jvm.ClassFile.FieldType.object "java/lang/String"))).before args0 about1 = true := code_word (m := ⟨9, 5⟩) (meth := k9m5) (c := k9c5) (by decide +kernel) rfl rfl rfl (by decide +kernel)
set_option maxRecDepth 65536 in
theorem w_c22 : (Jvm.Cond.code ({ cls := "java/lang/String", name := "equals", desc := "(Ljava/lang/Object;)Z" } : Jvm.MethodName) jdk_42_method_66_code (3 : Nat) (Option.some Jvm.ClassFile.FieldType.boolean)).before args0 about1 = true := code_word (m := ⟨7, 5⟩) (meth := k7m5) (c := k7c5) (by decide +kernel) rfl rfl rfl (by decide +kernel)
set_option maxRecDepth 65536 in
theorem w_c23 : (Jvm.Cond.code ({ cls := "com/example/woven_feed/wovenfeed/AccountId", name := "equals", desc := "(Ljava/lang/Object;)Z" } : Jvm.MethodName) prog_1_method_4_code (2 : Nat) (Option.some Jvm.ClassFile.FieldType.boolean)).before args0 about1 = true := code_word (m := ⟨9, 3⟩) (meth := k9m3) (c := k9c3) (by decide +kernel) rfl rfl rfl (by decide +kernel)
set_option maxRecDepth 65536 in
theorem w_c24 : (Jvm.Cond.code ({ cls := "java/lang/StringLatin1", name := "equals", desc := "([B[B)Z" } : Jvm.MethodName) jdk_43_method_13_code (3 : Nat) (Option.some Jvm.ClassFile.FieldType.boolean)).before args0 about1 = true := code_word (m := ⟨11, 2⟩) (meth := k11m2) (c := k11c2) (by decide +kernel) rfl rfl rfl (by decide +kernel)
set_option maxRecDepth 65536 in
theorem w_c25 : (Jvm.Cond.code ({ cls := "com/example/woven_feed/wovenfeed/AccountId", name := "hashCode", desc := "()I" } : Jvm.MethodName) prog_1_method_5_code (1 : Nat) (Option.some Jvm.ClassFile.FieldType.int)).before args0 about1 = true := code_word (m := ⟨9, 4⟩) (meth := k9m4) (c := k9c4) (by decide +kernel) rfl rfl rfl (by decide +kernel)
set_option maxRecDepth 65536 in
theorem w_c26 : (Jvm.Cond.code ({ cls := "java/lang/String", name := "hashCode", desc := "()I" } : Jvm.MethodName) jdk_42_method_78_code (2 : Nat) (Option.some Jvm.ClassFile.FieldType.int)).before args0 about1 = true := code_word (m := ⟨7, 6⟩) (meth := k7m6) (c := k7c6) (by decide +kernel) rfl rfl rfl (by decide +kernel)
set_option maxRecDepth 65536 in
theorem w_c27 : (Jvm.Cond.code ({ cls := "java/lang/StringLatin1", name := "hashCode", desc := "([B)I" } : Jvm.MethodName) jdk_43_method_21_code (1 : Nat) (Option.some Jvm.ClassFile.FieldType.int)).before args0 about1 = true := code_word (m := ⟨11, 3⟩) (meth := k11m3) (c := k11c3) (by decide +kernel) rfl rfl rfl (by decide +kernel)
set_option maxRecDepth 65536 in
theorem w_c28 : (Jvm.Cond.code ({ cls := "jdk/internal/util/ArraysSupport", name := "vectorizedHashCode", desc := "(Ljava/lang/Object;IIII)I" } : Jvm.MethodName) jdk_48_method_4_code (5 : Nat) (Option.some Jvm.ClassFile.FieldType.int)).before args0 about1 = true := code_word (m := ⟨13, 1⟩) (meth := k13m1) (c := k13c1) (by decide +kernel) rfl rfl rfl (by decide +kernel)
set_option maxRecDepth 65536 in
theorem w_c29 : (Jvm.Cond.code ({ cls := "jdk/internal/util/ArraysSupport", name := "signedHashCode", desc := "(I[BII)I" } : Jvm.MethodName) jdk_48_method_5_code (6 : Nat) (Option.some Jvm.ClassFile.FieldType.int)).before args0 about1 = true := code_word (m := ⟨13, 2⟩) (meth := k13m2) (c := k13c2) (by decide +kernel) rfl rfl rfl (by decide +kernel)
def codes1 : List Jvm.Cond := [Jvm.Cond.code x code maxLocals ret, Jvm.Cond.code ({ cls := "com/example/woven_feed/wovenfeed/AccountIdOfPinLaw", name := "ch", desc := "(I)C" } : Jvm.MethodName) method_2_code (2 : Nat) (Option.some Jvm.ClassFile.FieldType.char), Jvm.Cond.code ({ cls := "com/example/woven_feed/wovenfeed/AccountIdOfPinLaw", name := "make", desc := "(ICCCC)[C" } : Jvm.MethodName) method_3_code (5 : Nat) (Option.some (Jvm.ClassFile.FieldType.array Jvm.ClassFile.FieldType.char)), Jvm.Cond.code ({ cls := "java/lang/String", name := "<init>", desc := "([C)V" } : Jvm.MethodName) jdk_42_method_3_code (2 : Nat) (Option.none : Option Jvm.ClassFile.FieldType), Jvm.Cond.code ({ cls := "java/lang/String", name := "<init>", desc := "([CIILjava/lang/Void;)V" } : Jvm.MethodName) jdk_42_method_149_code (6 : Nat) (Option.none : Option Jvm.ClassFile.FieldType), Jvm.Cond.code ({ cls := "java/lang/Object", name := "<init>", desc := "()V" } : Jvm.MethodName) object_method_1_code (1 : Nat) (Option.none : Option Jvm.ClassFile.FieldType), Jvm.Cond.code ({ cls := "java/lang/StringUTF16", name := "compress", desc := "([CII)[B" } : Jvm.MethodName) jdk_52_method_16_code (6 : Nat) (Option.some (Jvm.ClassFile.FieldType.array Jvm.ClassFile.FieldType.byte)), Jvm.Cond.code ({ cls := "java/lang/StringUTF16", name := "compress", desc := "([CI[BII)I" } : Jvm.MethodName) jdk_52_method_21_code (7 : Nat) (Option.some Jvm.ClassFile.FieldType.int), Jvm.Cond.code ({ cls := "java/lang/StringUTF16", name := "coderFromArrayLen", desc := "([BI)B" } : Jvm.MethodName) jdk_52_method_15_code (2 : Nat) (Option.some Jvm.ClassFile.FieldType.byte), Jvm.Cond.code ({ cls := "com/example/woven_feed/wovenfeed/AccountId", name := "of", desc := "(Ljava/lang/String;)Lcom/example/woven_feed/wovenfeed/AccountId;" } : Jvm.MethodName) prog_1_method_2_code (2 : Nat) (Option.some (Jvm.ClassFile.FieldType.object "com/example/woven_feed/wovenfeed/AccountId")), Jvm.Cond.code ({ cls := "java/util/Objects", name := "requireNonNull", desc := "(Ljava/lang/Object;Ljava/lang/String;)Ljava/lang/Object;" } : Jvm.MethodName) jdk_31_method_11_code (2 : Nat) (Option.some (Jvm.ClassFile.FieldType.object "java/lang/Object")), Jvm.Cond.code ({ cls := "java/lang/String", name := "isEmpty", desc := "()Z" } : Jvm.MethodName) jdk_42_method_55_code (1 : Nat) (Option.some Jvm.ClassFile.FieldType.boolean), Jvm.Cond.code ({ cls := "java/lang/String", name := "length", desc := "()I" } : Jvm.MethodName) jdk_42_method_54_code (1 : Nat) (Option.some Jvm.ClassFile.FieldType.int), Jvm.Cond.code ({ cls := "java/lang/String", name := "coder", desc := "()B" } : Jvm.MethodName) jdk_42_method_152_code (1 : Nat) (Option.some Jvm.ClassFile.FieldType.byte), Jvm.Cond.code ({ cls := "java/lang/String", name := "charAt", desc := "(I)C" } : Jvm.MethodName) jdk_42_method_56_code (2 : Nat) (Option.some Jvm.ClassFile.FieldType.char), Jvm.Cond.code ({ cls := "java/lang/String", name := "isLatin1", desc := "()Z" } : Jvm.MethodName) jdk_42_method_154_code (1 : Nat) (Option.some Jvm.ClassFile.FieldType.boolean), Jvm.Cond.code ({ cls := "java/lang/StringLatin1", name := "charAt", desc := "([BI)C" } : Jvm.MethodName) jdk_43_method_2_code (2 : Nat) (Option.some Jvm.ClassFile.FieldType.char), Jvm.Cond.code ({ cls := "java/lang/String", name := "checkIndex", desc := "(II)V" } : Jvm.MethodName) jdk_42_method_155_code (2 : Nat) (Option.none : Option Jvm.ClassFile.FieldType), Jvm.Cond.code ({ cls := "jdk/internal/util/Preconditions", name := "checkIndex", desc := "(IILjava/util/function/BiFunction;)I" } : Jvm.MethodName) jdk_41_method_11_code (3 : Nat) (Option.some Jvm.ClassFile.FieldType.int), Jvm.Cond.code ({ cls := "com/example/woven_feed/wovenfeed/AccountId", name := "isIdCharacter", desc := "(C)Z" } : Jvm.MethodName) prog_1_method_3_code (1 : Nat) (Option.some Jvm.ClassFile.FieldType.boolean), Jvm.Cond.code ({ cls := "com/example/woven_feed/wovenfeed/AccountId", name := "<init>", desc := "(Ljava/lang/String;)V" } : Jvm.MethodName) prog_1_method_1_code (2 : Nat) (Option.none : Option Jvm.ClassFile.FieldType), Jvm.Cond.code ({ cls := "com/example/woven_feed/wovenfeed/AccountId", name := "toString", desc := "()Ljava/lang/String;" } : Jvm.MethodName) prog_1_method_6_code (1 : Nat) (Option.some (Jvm.ClassFile.FieldType.object "java/lang/String")), Jvm.Cond.code ({ cls := "java/lang/String", name := "equals", desc := "(Ljava/lang/Object;)Z" } : Jvm.MethodName) jdk_42_method_66_code (3 : Nat) (Option.some Jvm.ClassFile.FieldType.boolean), Jvm.Cond.code ({ cls := "com/example/woven_feed/wovenfeed/AccountId", name := "equals", desc := "(Ljava/lang/Object;)Z" } : Jvm.MethodName) prog_1_method_4_code (2 : Nat) (Option.some Jvm.ClassFile.FieldType.boolean), Jvm.Cond.code ({ cls := "java/lang/StringLatin1", name := "equals", desc := "([B[B)Z" } : Jvm.MethodName) jdk_43_method_13_code (3 : Nat) (Option.some Jvm.ClassFile.FieldType.boolean), Jvm.Cond.code ({ cls := "com/example/woven_feed/wovenfeed/AccountId", name := "hashCode", desc := "()I" } : Jvm.MethodName) prog_1_method_5_code (1 : Nat) (Option.some Jvm.ClassFile.FieldType.int), Jvm.Cond.code ({ cls := "java/lang/String", name := "hashCode", desc := "()I" } : Jvm.MethodName) jdk_42_method_78_code (2 : Nat) (Option.some Jvm.ClassFile.FieldType.int), Jvm.Cond.code ({ cls := "java/lang/StringLatin1", name := "hashCode", desc := "([B)I" } : Jvm.MethodName) jdk_43_method_21_code (1 : Nat) (Option.some Jvm.ClassFile.FieldType.int), Jvm.Cond.code ({ cls := "jdk/internal/util/ArraysSupport", name := "vectorizedHashCode", desc := "(Ljava/lang/Object;IIII)I" } : Jvm.MethodName) jdk_48_method_4_code (5 : Nat) (Option.some Jvm.ClassFile.FieldType.int), Jvm.Cond.code ({ cls := "jdk/internal/util/ArraysSupport", name := "signedHashCode", desc := "(I[BII)I" } : Jvm.MethodName) jdk_48_method_5_code (6 : Nat) (Option.some Jvm.ClassFile.FieldType.int)]
set_option maxRecDepth 65536 in
theorem codes_eq : words1.filter isCode = codes1 := rfl
theorem w_codes : ∀ c ∈ words1.filter isCode, c.before args0 about1 = true := by
  rw [codes_eq]
  intro c hc
  simp only [codes1, List.mem_cons, List.not_mem_nil, or_false] at hc
  rcases hc with rfl | rfl | rfl | rfl | rfl | rfl | rfl | rfl | rfl | rfl | rfl | rfl | rfl | rfl | rfl | rfl | rfl | rfl | rfl | rfl | rfl | rfl | rfl | rfl | rfl | rfl | rfl | rfl | rfl | rfl
  · exact w_c0
  · exact w_c1
  · exact w_c2
  · exact w_c3
  · exact w_c4
  · exact w_c5
  · exact w_c6
  · exact w_c7
  · exact w_c8
  · exact w_c9
  · exact w_c10
  · exact w_c11
  · exact w_c12
  · exact w_c13
  · exact w_c14
  · exact w_c15
  · exact w_c16
  · exact w_c17
  · exact w_c18
  · exact w_c19
  · exact w_c20
  · exact w_c21
  · exact w_c22
  · exact w_c23
  · exact w_c24
  · exact w_c25
  · exact w_c26
  · exact w_c27
  · exact w_c28
  · exact w_c29
set_option maxRecDepth 65536 in
theorem w_t1 : (words1.take 24).all (fun c => isCode c || c.before args0 about1) = true := by decide +kernel
set_option maxRecDepth 65536 in
theorem w_t2 : ((words1.drop 24).take 24).all (fun c => isCode c || c.before args0 about1) = true := by decide +kernel
set_option maxRecDepth 65536 in
theorem w_t3 : (((words1.drop 24).drop 24).take 24).all (fun c => isCode c || c.before args0 about1) = true := by decide +kernel
set_option maxRecDepth 65536 in
theorem w_t4 : ((((words1.drop 24).drop 24).drop 24).take 24).all (fun c => isCode c || c.before args0 about1) = true := by decide +kernel
set_option maxRecDepth 65536 in
theorem w_t5 : (((((words1.drop 24).drop 24).drop 24).drop 24).take 24).all (fun c => isCode c || c.before args0 about1) = true := by decide +kernel
set_option maxRecDepth 65536 in
theorem w_t6 : ((((((words1.drop 24).drop 24).drop 24).drop 24).drop 24).take 24).all (fun c => isCode c || c.before args0 about1) = true := by decide +kernel
set_option maxRecDepth 65536 in
theorem w_t7 : ((((((words1.drop 24).drop 24).drop 24).drop 24).drop 24).drop 24).all (fun c => isCode c || c.before args0 about1) = true := by decide +kernel
theorem w_tables : (allAtoms (Jvm.Cond.code x code maxLocals ret :: tables_1)).before args0 about1 = true := by
  rw [allAtoms_all]
  show words1.all (fun c => c.before args0 about1) = true
  refine all_split ?_ w_codes
  rw [← List.take_append_drop 24 words1, List.all_append, w_t1, ← List.take_append_drop 24 (words1.drop 24), List.all_append, w_t2, ← List.take_append_drop 24 ((words1.drop 24).drop 24), List.all_append, w_t3, ← List.take_append_drop 24 (((words1.drop 24).drop 24).drop 24), List.all_append, w_t4, ← List.take_append_drop 24 ((((words1.drop 24).drop 24).drop 24).drop 24), List.all_append, w_t5, ← List.take_append_drop 24 (((((words1.drop 24).drop 24).drop 24).drop 24).drop 24), List.all_append, w_t6, w_t7]
  rfl
set_option maxRecDepth 65536 in
theorem w_rest : rest_1_c.before args0 about1 = true := by decide +kernel
set_option maxRecDepth 65536 in
theorem w_case : (Jvm.Cond.and given_1 narrow_1).before args0 about1 = true := by decide +kernel
theorem w_applies : (headSpec (Jvm.Cond.code x code maxLocals ret :: tables_1) room_1).applies x e0.platform about1 = true :=
  (Spec.applies_iff w_frames).mpr ⟨w_running, w_runnable, w_alone, w_named, w_hears, w_ripe, w_room, w_tables⟩
theorem atStart : AtStart classFile x code maxLocals ret World_1 tables_1 room_1 Calls_1 rest_1 Pre_1 launch0 p0 e0 about1 theMethod args0 below0 :=
  ⟨lists_1, trivial, launch0.admits_env _ _ _, launch0.least_env, fairChoices_fair.cas, fairChoices_fair.clock, w_frames, w_args, w_heap, w_applies, trivial, w_rest, w_case⟩
end start1
theorem witness_1 : WitnessClaimed_1 := ⟨start1.p0, start1.e0, start1.about1, start1.theMethod, start1.args0, start1.below0, start1.atStart⟩
end Jvm.Pilot.@@N@@
