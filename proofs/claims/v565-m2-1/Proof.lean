import JvmDerived
import JvmDerived.Pilot.@@N@@Statement
import JvmDerived.Pilot.@@N@@Code
set_option linter.unusedVariables false
set_option linter.unusedSimpArgs false
namespace Jvm.Wk
open Jvm Jvm.ClassFile Sem Op Lib Bundle Jvm.Free Jvm.Stand Jvm.LawKit Jvm.RoadKit
abbrev Fd : Type := String × String × String × Value
abbrev Desc : Type := (String × List Fd) ⊕ (String × FieldType × List Value)
abbrev Ent : Type := Addr × Bool × Desc
def sl (Z : State) (f : Fd) : Nat := Jvm.RoadKit.slotOf Z f.1 f.2.1 f.2.2.1
def Dist (Z : State) : Desc → Prop
  | .inl (_, fs) => (fs.map (sl Z)).Pairwise (fun x y => x ≠ y)
  | .inr _ => True
def Sat (Z : State) (h : Heap) (a : Addr) : Desc → Prop
  | .inl (C, fs) => Exa Z h a C ∧ ∀ f ∈ fs, Fld Z h a f.1 f.2.1 f.2.2.1 f.2.2.2
  | .inr (ad, ty, vs) => ∃ c : Cell, Arr Z h a c ty ∧ c.slots = vs.toArray ∧ vs.length < 2147483648 ∧ (∀ v ∈ vs, fits ty v = true) ∧ (ad ≠ "" → Exa Z h a ad)
def Apart (x y : Ent) : Prop := (x.2.1 = true ∨ y.2.1 = true) → x.1 ≠ y.1
def Hp (Z : State) (EL : Bool × List (String × Nat)) (D : List Ent) (vm : Vm) (h : Heap) : Prop :=
  Ext Z.heap h ∧ CHv Z EL.2 vm h ∧ (∀ x ∈ D, Sat Z h x.1 x.2.2 ∧ (x.2.1 = true → Z.heap.size ≤ x.1 ∧ Safe Z EL.2 vm h x.1 ∧ Dist Z x.2.2)) ∧ D.Pairwise Apart
section Facts
variable {Z : State} {EL : Bool × List (String × Nat)} {D D' : List Ent} {vm vm1 : Vm} {h h' : Heap} {a b : Addr} {d d' : Desc} {s1 : Nat} {v : Value} {x y : Ent}
theorem Sat.ext (E : Ext h h') (S : Sat Z h a d) : Sat Z h' a d := by
  match d, S with
  | .inl (C, fs), S => exact ⟨S.1.ext E, fun f hf => (S.2 f hf).ext E⟩
  | .inr (ad, ty, vs), S => obtain ⟨c, A, r1, r2, r3, r4⟩ := S; exact ⟨c, A.ext E, r1, r2, r3, fun q => (r4 q).ext E⟩
theorem Sat.keep {ws : List Addr} (K : Keep h h' ws) (q : a ∉ ws) (S : Sat Z h a d) : Sat Z h' a d := by
  match d, S with
  | .inl (C, fs), S => exact ⟨S.1.keep K, fun f hf => (S.2 f hf).keep K q⟩
  | .inr (ad, ty, vs), S => obtain ⟨c, A, r1, r2, r3, r4⟩ := S; exact ⟨c, ⟨K.2.1 _ _ A.1 q, A.2⟩, r1, r2, r3, fun q => (r4 q).keep K⟩
theorem Sat.lt (S : Sat Z h a d) : a < h.size := by
  match d, S with
  | .inl (C, fs), S => exact S.1.lt
  | .inr (ad, ty, vs), S => obtain ⟨c, A, -⟩ := S; exact A.lt
theorem Apart.symm (q : Apart x y) : Apart y x := fun r e => q r.symm e.symm
theorem Hp.perm (P : D.Perm D') (H : Hp Z EL D vm h) : Hp Z EL D' vm h :=
  ⟨H.1, H.2.1, fun x hx => H.2.2.1 x (P.mem_iff.mpr hx), (P.pairwise_iff (fun q => Apart.symm q)).mp H.2.2.2⟩
theorem perm_front {α : Type} : ∀ (D : List α) (i : Nat) (x : α), D[i]? = some x → D.Perm (x :: D.eraseIdx i)
  | [], _, _, q => by simp at q
  | y :: D, 0, x, q => by simp at q; subst q; exact List.Perm.refl _
  | y :: D, i + 1, x, q => by
    have q' : D[i]? = some x := by simpa using q
    exact ((perm_front D i x q').cons y).trans (List.Perm.swap x y _)
theorem perm_set {α : Type} : ∀ (D : List α) (i : Nat) (x x' : α), D[i]? = some x → (D.set i x').Perm (x' :: D.eraseIdx i)
  | [], _, _, _, q => by simp at q
  | y :: D, 0, x, x', q => List.Perm.refl _
  | y :: D, i + 1, x, x', q => by
    have q' : D[i]? = some x := by simpa using q
    exact ((perm_set D i x x' q').cons y).trans (List.Perm.swap x' y _)
theorem Hp.new (H : Hp Z EL D vm h) (E : Ext h h') (S : Sat Z h' h.size d) (dd : Dist Z d) : Hp Z EL ((h.size, true, d) :: D) vm h' := by
  obtain ⟨h1, h2, h3, h4⟩ := H
  refine ⟨⟨Nat.le_trans h1.1 E.1, fun a c q => E.2 _ _ (h1.2 _ _ q)⟩, h2.ext E, fun x hx => ?_, List.pairwise_cons.mpr ⟨fun y hy _ => ?_, h4⟩⟩
  · rcases List.mem_cons.mp hx with rfl | hx
    · exact ⟨S, fun _ => ⟨h1.1, Safe.ext E h2 (Safe.new (Nat.le_refl _)), dd⟩⟩
    · exact ⟨(h3 x hx).1.ext E, fun w => ⟨((h3 x hx).2 w).1, Safe.ext E h2 ((h3 x hx).2 w).2.1, ((h3 x hx).2 w).2.2⟩⟩
  · have := (h3 y hy).1.lt
    exact fun e => by rw [← e] at this; exact Nat.lt_irrefl _ this
theorem Hp.keepHead (H : Hp Z EL ((a, true, d) :: D) vm h) (K : Keep h h' [a]) (S : Sat Z h' a d') (dd : Dist Z d') : Hp Z EL ((a, true, d') :: D) vm h' := by
  obtain ⟨h1, h2, h3, h4⟩ := H
  obtain ⟨g1, g2, -⟩ := (h3 _ (List.mem_cons_self ..)).2 rfl
  have hs : ∀ x ∈ [a], Safe Z EL.2 vm h x := fun x hx => by cases List.mem_singleton.mp hx; exact g2
  obtain ⟨p1, p2⟩ := List.pairwise_cons.mp h4
  refine ⟨⟨Nat.le_trans h1.1 K.1, fun b c q => K.2.1 _ _ (h1.2 _ _ q) fun z => ?_⟩, h2.keep K hs, fun x hx => ?_, List.pairwise_cons.mpr ⟨fun y hy r => p1 y hy (Or.inl rfl), p2⟩⟩
  · cases List.mem_singleton.mp z
    exact Nat.lt_irrefl _ (Nat.lt_of_lt_of_le (Array.getElem?_eq_some_iff.mp q).1 g1)
  · rcases List.mem_cons.mp hx with rfl | hx
    · exact ⟨S, fun _ => ⟨g1, Safe.keep K hs h2 g2, dd⟩⟩
    · have ne : x.1 ∉ [a] := fun z => p1 x hx (Or.inl rfl) (List.mem_singleton.mp z).symm
      have hx' := h3 x (List.mem_cons_of_mem _ hx)
      exact ⟨hx'.1.keep K ne, fun w => ⟨(hx'.2 w).1, Safe.keep K hs h2 (hx'.2 w).2.1, (hx'.2 w).2.2⟩⟩
theorem Hp.keepSet {i : Nat} (H : Hp Z EL D vm h) (hi : D[i]? = some (a, true, d)) (K : Keep h h' [a]) (S : Sat Z h' a d') (dd : Dist Z d') : Hp Z EL (D.set i (a, true, d')) vm h' :=
  ((H.perm (perm_front D i _ hi)).keepHead K S dd).perm (perm_set D i _ _ hi).symm
theorem Hp.toVm (H : Hp Z EL D vm h) (C : CHr Z EL.2 vm h vm1 h) : Hp Z EL D vm1 h :=
  ⟨H.1, C.1, fun x hx => ⟨(H.2.2.1 x hx).1, fun w => ⟨((H.2.2.1 x hx).2 w).1, C.safe (H.2.2.1 x hx).1.lt ((H.2.2.1 x hx).2 w).2.1, ((H.2.2.1 x hx).2 w).2.2⟩⟩, H.2.2.2⟩
theorem Hp.sub (H : Hp Z EL D vm h) (q : D'.Sublist D) : Hp Z EL D' vm h := ⟨H.1, H.2.1, fun x hx => H.2.2.1 x (q.subset hx), H.2.2.2.sublist q⟩
theorem Hp.grown (H : Hp Z EL D vm h) (E : Ext h h') (C : CHr Z EL.2 vm h vm1 h') : Hp Z EL D vm1 h' :=
  ⟨⟨Nat.le_trans H.1.1 E.1, fun a c q => E.2 _ _ (H.1.2 _ _ q)⟩, C.1, fun x hx => ⟨(H.2.2.1 x hx).1.ext E, fun w => ⟨((H.2.2.1 x hx).2 w).1, C.safe (H.2.2.1 x hx).1.lt ((H.2.2.1 x hx).2 w).2.1, ((H.2.2.1 x hx).2 w).2.2⟩⟩, H.2.2.2⟩
theorem Hp.read (H : Hp Z EL D vm h) (S : Sat Z h a d) (ne : ∀ x, Safe Z EL.2 vm h x → Z.heap.size ≤ x → x ≠ a) : Hp Z EL ((a, false, d) :: D) vm h := by
  refine ⟨H.1, H.2.1, fun x hx => ?_, List.pairwise_cons.mpr ⟨fun y hy r e => ?_, H.2.2.2⟩⟩
  · rcases List.mem_cons.mp hx with rfl | hx
    · exact ⟨S, fun w => by cases w⟩
    · exact H.2.2.1 x hx
  · rcases r with r | r
    · cases r
    · exact ne y.1 ((H.2.2.1 y hy).2 r).2.1 ((H.2.2.1 y hy).2 r).1 e.symm
theorem Sat.arv {ad : String} {ty : FieldType} {vs : List Value} (dv : Value) (S : Sat Z h a (.inr (ad, ty, vs))) : ∃ k, Arv Z h a k ty (Nat.toInt32 vs.length) vs dv := by
  obtain ⟨c, A, r1, r2, r3, r4⟩ := S
  have e1 : (Nat.toInt32 vs.length).toInt = vs.length := len_toInt r2
  have e2 : (Nat.toInt32 vs.length).toNatClampNeg = vs.length := by simp [Int32.toNatClampNeg, e1]
  refine ⟨c.cls, c, A, rfl, by rw [e2, r1]; simp, fun q => ?_, fun k hk => ?_, fun i hi => ?_⟩
  · rw [Int32.lt_iff_toInt_lt, e1] at q
    have : (0 : Int32).toInt = 0 := rfl
    omega
  · rw [r1] at hk ⊢
    have hk' : k < vs.length := by simpa using hk
    simp [hk']
  · rw [r1] at hi
    have hi' : i < vs.length := by simpa using hi
    have : vs.getD i dv = vs[i] := by simp [hi']
    rw [this]; exact r3 _ (List.getElem_mem hi')
theorem Sat.of_arv {ad : String} {ty : FieldType} {vs : List Value} {k : ClassId} {z : Int32} {dv : Value} (A : Arv Z h a k ty z vs dv) (hl : z.toNatClampNeg = vs.length) (hE : ad ≠ "" → Exa Z h a ad) : Sat Z h a (.inr (ad, ty, vs)) := by
  obtain ⟨c, A, r1, r2, r3, r4, r5⟩ := A
  have hs : c.slots.size = vs.length := r2.trans hl
  refine ⟨c, A, ?_, ?_, fun v hv => ?_, hE⟩
  · apply Array.ext_getElem?
    intro i
    by_cases hi : i < vs.length
    · rw [r4 i (by omega)]; simp [hi]
    · rw [Array.getElem?_eq_none (by omega), Array.getElem?_eq_none (by simpa using Nat.le_of_not_lt hi)]
  · have := (back32 r3).2; omega
  · obtain ⟨i, hi, rfl⟩ := List.mem_iff_getElem.mp hv
    have := r5 i (by omega)
    simpa [hi] using this
end Facts
def Idx (j : Int32) (i : Nat) : Prop := ¬ j < 0 ∧ j.toNatClampNeg = i
theorem Idx.of_nat {i : Nat} (hi : i < 2147483648) : Idx (Nat.toInt32 i) i := by
  have e1 : (Nat.toInt32 i).toInt = i := len_toInt hi
  refine ⟨fun q => ?_, by simp [Int32.toNatClampNeg, e1]⟩
  rw [Int32.lt_iff_toInt_lt, e1] at q
  have : (0 : Int32).toInt = 0 := rfl
  omega
theorem Idx.toInt {j : Int32} {i : Nat} (q : Idx j i) : j.toInt = i := by
  have h1 : ¬ j.toInt < 0 := fun r => q.1 (by rw [Int32.lt_iff_toInt_lt]; exact r)
  have h2 := q.2
  simp only [Int32.toNatClampNeg] at h2
  omega
theorem Idx.of_toInt {j : Int32} {i : Nat} (q : j.toInt = i) : Idx j i := by
  refine ⟨fun r => ?_, by simp [Int32.toNatClampNeg, q]⟩
  rw [Int32.lt_iff_toInt_lt, q] at r
  have : (0 : Int32).toInt = 0 := rfl
  omega
end Jvm.Wk
namespace Jvm.Wk
open Jvm Jvm.ClassFile Sem Op Lib Bundle Jvm.Free Jvm.Stand Jvm.LawKit Jvm.RoadKit
def ELok (Z : State) (EL : Bool × List (String × Nat)) : Prop := (∃ a0, EW Z a0 EL.2) ∧ (EL.1 = true → EL.2 = [])
def Res (Z : State) (EL : Bool × List (String × Nat)) (Q : Option Value → List Ent → Prop) (R : Room) (s : State) (o : Outcome) (t : State) : Prop :=
  ∃ v L, o = .returned v ∧ Fr Z.heap.size L ∧ (∃ D', Hp Z EL D' t.vm t.heap ∧ Q v D') ∧ ReturnedEndW s o t L R.cells R.slots ∧ (EL.1 = true → s.WarmedH t.vm)
def Here (Z : State) (EL : Bool × List (String × Nat)) (R : Room) (own nm : String) (bytes : ByteArray) (ml : Nat) (ret : Option FieldType) (D : List Ent) (k n : Nat)
    (p : Program) (l : Launch) (e : Env) (s : State) (m : MethodId) (args : Array Value) (below : List Frame) (meth : Method) (c : Code) (T : State) (vm0 : Vm) (k0 : Nat) (locs : List Loc) (cells slots : Nat) : Prop :=
  Stand p l e R (s.setVm vm0) m args below meth c T locs cells slots ∧ s.Since vm0 k0 ∧ k0 ≤ T.heap.size ∧ p.tables.exec = Jvm.exec ∧ c.code = bytes ∧ c.maxLocals = ml ∧ vm0.findClass own = some m.cls ∧ Z.Warmed39 vm0 ∧
    meth.sig.returnType = ret ∧ meth.locks = false ∧ meth.name = nm ∧ Fr Z.heap.size locs ∧ Hp Z EL D vm0 T.heap ∧ cells ≤ k ∧ slots ≤ n ∧ ELok Z EL ∧ (EL.1 = true → vm0 = s.vm)
def W (Z : State) (EL : Bool × List (String × Nat)) (R : Room) (own nm : String) (bytes : ByteArray) (ml : Nat) (ret : Option FieldType) (Q : Option Value → List Ent → Prop) (D : List Ent) (k n : Nat) (pc : Nat) (ls : Array Slot) (st : List Value) : Prop :=
  ∀ p l e s m args below meth c T vm0 k0 locs cells slots, Here Z EL R own nm bytes ml ret D k n p l e s m args below meth c T vm0 k0 locs cells slots →
    ∃ s₂ o, Steps p.tables e below (T.setTop (mkF m pc ls st)) s₂ ∧ s₂.status = .running ∧ Ended s₂ below o ∧ Res Z EL Q R s o s₂
def Con (Z : State) (EL : Bool × List (String × Nat)) (y : MethodName) (bytes : ByteArray) (maxL : Nat) (ret : Option FieldType) (rm : Room) (as : List Value) (D : List Ent) (Q : Option Value → List Ent → Prop) : Prop :=
  ELok Z EL → ∀ (l : Launch) (ws : List Cond), MetFree l y (head1 (Cond.code y bytes maxL ret :: ws) rm) (fun a U => a = as.toArray ∧ Z.Warmed39 U.vm ∧ Hp Z EL D U.vm U.heap) (fun _ _ _ _ _ => True) (fun _ U o U' => Res Z EL Q rm U o U')
def SlOk (t : Slot) : Prop := t = .unset ∨ ∃ v : Value, t = .val v ∧ v.category = 1
theorem store_ok {l l' : Array Slot} {i : Nat} {t : Slot} {v : Value} (ht : SlOk t) (h : l[i]? = some t) (h' : storeSelf l i v = some l') : storeLocals l i v = some l' := by
  unfold storeLocals
  rcases ht with rfl | ⟨w, rfl, hw⟩
  · simp only [h, Option.bind_eq_bind, Option.bind_some]; exact h'
  · simp only [h, Option.bind_eq_bind, Option.bind_some]; rw [if_neg (by rw [hw]; decide)]; exact h'
theorem ld0 : Jvm.Sym.laidSlots [] = [] := rfl
theorem ld1 {v : Value} {vs : List Value} {L : List Slot} (h : v.category = 1) (e : Jvm.Sym.laidSlots vs = L) : Jvm.Sym.laidSlots (v :: vs) = .val v :: L := by simp [Jvm.Sym.laidSlots, h, e]
theorem hent_of {as : List Value} {L : List Slot} {ml : Nat} {ls : Array Slot} (e : Jvm.Sym.laidSlots as = L) (h : L ++ List.replicate (ml - L.length) .unset = ls.toList) : Jvm.Sym.laidSlots as ++ List.replicate (ml - (Jvm.Sym.laidSlots as).length) .unset = ls.toList := by rw [e]; exact h
section Walk
variable {Z : State} {EL : Bool × List (String × Nat)} {R : Room} {own nm : String} {bytes : ByteArray} {ml : Nat} {ret : Option FieldType} {Q : Option Value → List Ent → Prop} {D D' : List Ent} {k n pc : Nat} {ls ls' : Array Slot} {st : List Value} {a0 : Array Value}
theorem Con.of {y : MethodName} {as : List Value} (hpl : plainFor y = true) (hent : Jvm.Sym.laidSlots as ++ List.replicate (ml - (Jvm.Sym.laidSlots as).length) .unset = ls.toList) (hW : W Z EL R y.cls y.name bytes ml ret Q D 0 0 0 ls []) : Con Z EL y bytes ml ret R as D Q := by
  intro hE l ws
  refine MetFree.of_bodySF hpl hisR ?_
  intro p e s m args below meth c s₁ Bd hml0 hP hK
  obtain ⟨rfl, hZ, hh⟩ := hP
  have X0 : Stand p l e R s m as.toArray below meth c s₁ [] 0 0 := Stand.of_body Bd
  have e0 : s₁.heap = s.heap := by rw [Bd.state]; rfl
  have hown : s.vm.findClass y.cls = some m.cls := findClass_of_methodNamed Bd.named
  have hnm := (name_of_methodNamed Bd.named Bd.method).1
  obtain ⟨s₂, o, h1, r⟩ := hW p l e s m as.toArray below meth c s₁ s.vm 0 [] 0 0
    ⟨X0, (State.WarmedH.refl s).since 0, Nat.zero_le _, Bd.exec, Bd.bytes, hml0, hown, hZ, Bd.returns, Bd.notSynchronized, hnm, Fr.nil _, by rw [e0]; exact hh, Nat.le_refl _, Nat.le_refl _, hE, fun _ => rfl⟩
  exact ⟨s₂, o, (XT.entry (by simpa using hent)).trans h1, r⟩
theorem W.pure {pc' : Nat} {st' : List Value} (H : ∀ {p : Program} {e : Env} {below : List Frame} {T target : State} {m : MethodId} {c : Code}, At T m c below → p.tables.exec = Jvm.exec → c.code = bytes → Steps p.tables e below (T.setTop (mkF m pc' ls' st')) target → Steps p.tables e below (T.setTop (mkF m pc ls st)) target)
    (next : W Z EL R own nm bytes ml ret Q D k n pc' ls' st') : W Z EL R own nm bytes ml ret Q D k n pc ls st := by
  intro p l e s m args below meth c T vm0 k0 locs cells slots A
  obtain ⟨s₂, o, h1, r⟩ := next p l e s m args below meth c T vm0 k0 locs cells slots A
  exact ⟨s₂, o, H A.1.here A.2.2.2.1 A.2.2.2.2.1 h1, r⟩
theorem W.mono {k' n' : Nat} (hk : k ≤ k') (hn : n ≤ n') (next : W Z EL R own nm bytes ml ret Q D k' n' pc ls st) : W Z EL R own nm bytes ml ret Q D k n pc ls st := by
  intro p l e s m args below meth c T vm0 k0 locs cells slots A
  obtain ⟨X, hS, hk0, hx, hby, hml, hown, hZ, r1, r2, r3, hN, hH, hc, hl, hE, hNI⟩ := A
  exact next p l e s m args below meth c T vm0 k0 locs cells slots ⟨X, hS, hk0, hx, hby, hml, hown, hZ, r1, r2, r3, hN, hH, Nat.le_trans hc hk, Nat.le_trans hl hn, hE, hNI⟩
theorem W.heap (H : ∀ vm h, Hp Z EL D vm h → Hp Z EL D' vm h) (next : W Z EL R own nm bytes ml ret Q D' k n pc ls st) : W Z EL R own nm bytes ml ret Q D k n pc ls st := by
  intro p l e s m args below meth c T vm0 k0 locs cells slots A
  obtain ⟨X, hS, hk0, hx, hby, hml, hown, hZ, r1, r2, r3, hN, hH, hc, hl, hE, hNI⟩ := A
  exact next p l e s m args below meth c T vm0 k0 locs cells slots ⟨X, hS, hk0, hx, hby, hml, hown, hZ, r1, r2, r3, hN, H _ _ hH, hc, hl, hE, hNI⟩
theorem W.perm (P : D.Perm D') (next : W Z EL R own nm bytes ml ret Q D' k n pc ls st) : W Z EL R own nm bytes ml ret Q D k n pc ls st := W.heap (fun _ _ H => H.perm P) next
theorem W.front (i : Nat) {x : Ent} (hi : D[i]? = some x) (hD : x :: D.eraseIdx i = D') (next : W Z EL R own nm bytes ml ret Q D' k n pc ls st) : W Z EL R own nm bytes ml ret Q D k n pc ls st := W.perm (hD ▸ perm_front D i x hi) next
theorem W.drop {x : Ent} (next : W Z EL R own nm bytes ml ret Q D k n pc ls st) : W Z EL R own nm bytes ml ret Q (x :: D) k n pc ls st := W.heap (fun _ _ H => H.sub (List.sublist_cons_self ..)) next
theorem W.aload (i : Nat) {v : Value} (hd : decode bytes pc = .ok (.aload i, 2)) (hl : ls[i]? = some (.val v)) (hv : v.isRef = true) (next : W Z EL R own nm bytes ml ret Q D k n (pc + 2) ls (v :: st)) : W Z EL R own nm bytes ml ret Q D k n pc ls st :=
  W.pure (fun h hx hc hr => XS.aload (g := mkF _ pc ls st) h hx rfl (hb hc hd) hl hv hr) next
theorem W.aloadN {i : Fin 4} {v : Value} (hd : decode bytes pc = .ok (.aload_n i, 1)) (hl : ls[i.val]? = some (.val v)) (hv : v.isRef = true) (next : W Z EL R own nm bytes ml ret Q D k n (pc + 1) ls (v :: st)) : W Z EL R own nm bytes ml ret Q D k n pc ls st :=
  W.pure (fun h hx hc hr => XS.aloadN (g := mkF _ pc ls st) h hx rfl (hb hc hd) hl hv hr) next
theorem W.iload {i : Nat} {v : Int32} (hd : decode bytes pc = .ok (.iload i, 2)) (hl : ls[i]? = some (.val (.int v))) (next : W Z EL R own nm bytes ml ret Q D k n (pc + 2) ls (.int v :: st)) : W Z EL R own nm bytes ml ret Q D k n pc ls st :=
  W.pure (fun h hx hc hr => XS.iload (g := mkF _ pc ls st) h hx rfl (hb hc hd) hl hr) next
theorem W.iloadN {i : Fin 4} {v : Int32} (hd : decode bytes pc = .ok (.iload_n i, 1)) (hl : ls[i.val]? = some (.val (.int v))) (next : W Z EL R own nm bytes ml ret Q D k n (pc + 1) ls (.int v :: st)) : W Z EL R own nm bytes ml ret Q D k n pc ls st :=
  W.pure (fun h hx hc hr => XS.iloadN (g := mkF _ pc ls st) h hx rfl (hb hc hd) hl hr) next
theorem W.astore {i : Nat} {v : Value} (hd : decode bytes pc = .ok (.astore i, 2)) (hv : v.isRef = true) (hl : storeLocals ls i v = some ls') (next : W Z EL R own nm bytes ml ret Q D k n (pc + 2) ls' st) : W Z EL R own nm bytes ml ret Q D k n pc ls (v :: st) :=
  W.pure (fun h hx hc hr => XS.astore (g := mkF _ pc ls (v :: st)) h hx rfl (hb hc hd) rfl hv hl hr) next
theorem W.astoreN {i : Fin 4} {v : Value} (hd : decode bytes pc = .ok (.astore_n i, 1)) (hv : v.isRef = true) (hl : storeLocals ls i.val v = some ls') (next : W Z EL R own nm bytes ml ret Q D k n (pc + 1) ls' st) : W Z EL R own nm bytes ml ret Q D k n pc ls (v :: st) :=
  W.pure (fun h hx hc hr => XS.astoreN (g := mkF _ pc ls (v :: st)) h hx rfl (hb hc hd) rfl hv hl hr) next
theorem W.istore {i : Nat} {v : Int32} (hd : decode bytes pc = .ok (.istore i, 2)) (hl : storeLocals ls i (.int v) = some ls') (next : W Z EL R own nm bytes ml ret Q D k n (pc + 2) ls' st) : W Z EL R own nm bytes ml ret Q D k n pc ls (.int v :: st) :=
  W.pure (fun h hx hc hr => XS.istore (g := mkF _ pc ls (.int v :: st)) h hx rfl (hb hc hd) rfl hl hr) next
theorem W.istoreN {i : Fin 4} {v : Int32} (hd : decode bytes pc = .ok (.istore_n i, 1)) (hl : storeLocals ls i.val (.int v) = some ls') (next : W Z EL R own nm bytes ml ret Q D k n (pc + 1) ls' st) : W Z EL R own nm bytes ml ret Q D k n pc ls (.int v :: st) :=
  W.pure (fun h hx hc hr => XS.istoreN (g := mkF _ pc ls (.int v :: st)) h hx rfl (hb hc hd) rfl hl hr) next
theorem W.iconst {i : Int} (v : Int32) (hd : decode bytes pc = .ok (.iconst i, 1)) (hv : Int32.ofInt i = v) (next : W Z EL R own nm bytes ml ret Q D k n (pc + 1) ls (.int v :: st)) : W Z EL R own nm bytes ml ret Q D k n pc ls st :=
  W.pure (fun h hx hc hr => XT.iconstV (g := mkF _ pc ls st) h hx rfl v (hb hc hd) hv hr) next
theorem W.bipush {i : Int} (v : Int32) (hd : decode bytes pc = .ok (.bipush i, 2)) (hv : (Int8.ofInt i).toInt32 = v) (next : W Z EL R own nm bytes ml ret Q D k n (pc + 2) ls (.int v :: st)) : W Z EL R own nm bytes ml ret Q D k n pc ls st :=
  W.pure (fun h hx hc hr => XT.bipushV (g := mkF _ pc ls st) h hx rfl v (hb hc hd) hv hr) next
theorem W.sipush {i : Int} (v : Int32) (hd : decode bytes pc = .ok (.sipush i, 3)) (hv : (Int16.ofInt i).toInt32 = v) (next : W Z EL R own nm bytes ml ret Q D k n (pc + 3) ls (.int v :: st)) : W Z EL R own nm bytes ml ret Q D k n pc ls st :=
  W.pure (fun h hx hc hr => XT.sipushV (g := mkF _ pc ls st) h hx rfl v (hb hc hd) hv hr) next
theorem W.aconstNull (hd : decode bytes pc = .ok (.aconst_null, 1)) (next : W Z EL R own nm bytes ml ret Q D k n (pc + 1) ls (.null :: st)) : W Z EL R own nm bytes ml ret Q D k n pc ls st :=
  W.pure (fun h hx hc hr => XS.aconstNull (g := mkF _ pc ls st) h hx rfl (hb hc hd) hr) next
theorem W.iinc {i : Nat} {cst : Int} {x : Int32} (v : Int32) (hd : decode bytes pc = .ok (.iinc i cst, 3)) (hv : Int32.ofInt cst = v) (hl : ls[i]? = some (.val (.int x))) (hl' : storeLocals ls i (.int (x + v)) = some ls') (next : W Z EL R own nm bytes ml ret Q D k n (pc + 3) ls' st) : W Z EL R own nm bytes ml ret Q D k n pc ls st :=
  W.pure (fun h hx hc hr => XT.iincV (g := mkF _ pc ls st) h hx rfl v (hb hc hd) hv hl hl' hr) next
theorem W.popv {x : Value} (hd : decode bytes pc = .ok (.pop, 1)) (hc1 : x.category = 1) (next : W Z EL R own nm bytes ml ret Q D k n (pc + 1) ls st) : W Z EL R own nm bytes ml ret Q D k n pc ls (x :: st) :=
  W.pure (fun h hx hc hr => XT.pop (g := mkF _ pc ls (x :: st)) h hx rfl (hb hc hd) rfl hc1 hr) next
theorem W.dup {x : Value} (hd : decode bytes pc = .ok (.dup, 1)) (hc1 : x.category = 1) (next : W Z EL R own nm bytes ml ret Q D k n (pc + 1) ls (x :: x :: st)) : W Z EL R own nm bytes ml ret Q D k n pc ls (x :: st) :=
  W.pure (fun h hx hc hr => XS.dup (g := mkF _ pc ls (x :: st)) h hx rfl (hb hc hd) rfl hc1 hr) next
theorem W.iadd {x y : Int32} (hd : decode bytes pc = .ok (.iadd, 1)) (next : W Z EL R own nm bytes ml ret Q D k n (pc + 1) ls (.int (x + y) :: st)) : W Z EL R own nm bytes ml ret Q D k n pc ls (.int y :: .int x :: st) :=
  W.pure (fun h hx hc hr => XS.iadd (g := mkF _ pc ls (.int y :: .int x :: st)) h hx rfl (hb hc hd) rfl hr) next
theorem W.isub {x y : Int32} (hd : decode bytes pc = .ok (.isub, 1)) (next : W Z EL R own nm bytes ml ret Q D k n (pc + 1) ls (.int (x - y) :: st)) : W Z EL R own nm bytes ml ret Q D k n pc ls (.int y :: .int x :: st) :=
  W.pure (fun h hx hc hr => XS.isub (g := mkF _ pc ls (.int y :: .int x :: st)) h hx rfl (hb hc hd) rfl hr) next
theorem W.irem {x y : Int32} (hd : decode bytes pc = .ok (.irem, 1)) (hy : y ≠ 0) (next : W Z EL R own nm bytes ml ret Q D k n (pc + 1) ls (.int (x % y) :: st)) : W Z EL R own nm bytes ml ret Q D k n pc ls (.int y :: .int x :: st) := by
  intro p l e s m args below meth c T vm0 k0 locs cells slots A
  obtain ⟨s₂, o, h1, r⟩ := next p l e s m args below meth c T vm0 k0 locs cells slots A
  exact ⟨s₂, o, iremM (g := mkF m pc ls (.int y :: .int x :: st)) A.1 A.2.2.2.1 rfl (hb A.2.2.2.2.1 hd) rfl hy h1, r⟩
theorem W.iand {x y : Int32} (hd : decode bytes pc = .ok (.iand, 1)) (next : W Z EL R own nm bytes ml ret Q D k n (pc + 1) ls (.int (x &&& y) :: st)) : W Z EL R own nm bytes ml ret Q D k n pc ls (.int y :: .int x :: st) :=
  W.pure (fun h hx hc hr => XS.iand (g := mkF _ pc ls (.int y :: .int x :: st)) h hx rfl (hb hc hd) rfl hr) next
theorem W.ishl {x y : Int32} (hd : decode bytes pc = .ok (.ishl, 1)) (next : W Z EL R own nm bytes ml ret Q D k n (pc + 1) ls (.int (x <<< (y &&& 31)) :: st)) : W Z EL R own nm bytes ml ret Q D k n pc ls (.int y :: .int x :: st) :=
  W.pure (fun h hx hc hr => XT.ishl (g := mkF _ pc ls (.int y :: .int x :: st)) h hx rfl (hb hc hd) rfl hr) next
theorem W.ishr {x y : Int32} (hd : decode bytes pc = .ok (.ishr, 1)) (next : W Z EL R own nm bytes ml ret Q D k n (pc + 1) ls (.int (x >>> (y &&& 31)) :: st)) : W Z EL R own nm bytes ml ret Q D k n pc ls (.int y :: .int x :: st) :=
  W.pure (fun h hx hc hr => XT.ishr (g := mkF _ pc ls (.int y :: .int x :: st)) h hx rfl (hb hc hd) rfl hr) next
theorem W.iushr {x y : Int32} (hd : decode bytes pc = .ok (.iushr, 1)) (next : W Z EL R own nm bytes ml ret Q D k n (pc + 1) ls (.int (XT.ushr x y) :: st)) : W Z EL R own nm bytes ml ret Q D k n pc ls (.int y :: .int x :: st) :=
  W.pure (fun h hx hc hr => XT.iushr (g := mkF _ pc ls (.int y :: .int x :: st)) h hx rfl (hb hc hd) rfl hr) next
theorem W.i2b {x : Int32} (hd : decode bytes pc = .ok (.i2b, 1)) (next : W Z EL R own nm bytes ml ret Q D k n (pc + 1) ls (.int x.toInt8.toInt32 :: st)) : W Z EL R own nm bytes ml ret Q D k n pc ls (.int x :: st) :=
  W.pure (fun h hx hc hr => XT.i2b (g := mkF _ pc ls (.int x :: st)) h hx rfl (hb hc hd) rfl hr) next
theorem W.i2c {x : Int32} (hd : decode bytes pc = .ok (.i2c, 1)) (next : W Z EL R own nm bytes ml ret Q D k n (pc + 1) ls (.int x.toUInt32.toUInt16.toUInt32.toInt32 :: st)) : W Z EL R own nm bytes ml ret Q D k n pc ls (.int x :: st) :=
  W.pure (fun h hx hc hr => XT.i2c (g := mkF _ pc ls (.int x :: st)) h hx rfl (hb hc hd) rfl hr) next
theorem W.goto (pc' : Nat) {o : Int} (hd : decode bytes pc = .ok (.goto o, 3)) (ho : 0 ≤ (pc : Int) + o ∧ ((pc : Int) + o).toNat = pc') (next : W Z EL R own nm bytes ml ret Q D k n pc' ls st) : W Z EL R own nm bytes ml ret Q D k n pc ls st :=
  W.pure (fun h hx hc hr => XS.goto (g := mkF _ pc ls st) h hx rfl rfl (hb hc hd) ho.1 ho.2 hr) next
def Cd : ClassFile.Cond → Int32 → Int32 → Prop
  | .eq, x, y => x = y
  | .ne, x, y => ¬ x = y
  | .lt, x, y => x < y
  | .ge, x, y => ¬ x < y
  | .gt, x, y => y < x
  | .le, x, y => ¬ y < x
theorem Cd.yes {cd : ClassFile.Cond} {x y : Int32} (q : Cd cd x y) : if_icmp.holds cd x y = true := by
  cases cd <;> first | exact (teq q).1 | exact (feq q).2 | exact (tlt q).1 | exact (flt q).2.1 | exact (tlt q).2.2.1 | exact (flt q).2.2.2
theorem Cd.no {cd : ClassFile.Cond} {x y : Int32} (q : ¬ Cd cd x y) : if_icmp.holds cd x y = false := by
  cases cd <;> first | exact (feq q).1 | exact (teq (Classical.not_not.mp q)).2 | exact (flt q).1 | exact (tlt (Classical.not_not.mp q)).2.1 | exact (flt q).2.2.1 | exact (tlt (Classical.not_not.mp q)).2.2.2
theorem W.icmpY (pc' : Nat) {cd : ClassFile.Cond} {x y : Int32} {o : Int} (hd : decode bytes pc = .ok (.if_icmp cd o, 3)) (q : Cd cd x y) (ho : 0 ≤ (pc : Int) + o ∧ ((pc : Int) + o).toNat = pc') (next : W Z EL R own nm bytes ml ret Q D k n pc' ls st) : W Z EL R own nm bytes ml ret Q D k n pc ls (.int y :: .int x :: st) :=
  W.pure (fun h hx hc hr => XS.icmpYes (g := mkF _ pc ls (.int y :: .int x :: st)) h hx rfl rfl (hb hc hd) rfl q.yes ho.1 ho.2 hr) next
theorem W.icmpN {cd : ClassFile.Cond} {x y : Int32} {o : Int} (hd : decode bytes pc = .ok (.if_icmp cd o, 3)) (q : ¬ Cd cd x y) (next : W Z EL R own nm bytes ml ret Q D k n (pc + 3) ls st) : W Z EL R own nm bytes ml ret Q D k n pc ls (.int y :: .int x :: st) :=
  W.pure (fun h hx hc hr => XS.icmpNo (g := mkF _ pc ls (.int y :: .int x :: st)) h hx rfl (hb hc hd) rfl (Cd.no q) hr) next
theorem W.icmp (pc' : Nat) {cd : ClassFile.Cond} {x y : Int32} {o : Int} (hd : decode bytes pc = .ok (.if_icmp cd o, 3)) (ho : 0 ≤ (pc : Int) + o ∧ ((pc : Int) + o).toNat = pc') (nextY : Cd cd x y → W Z EL R own nm bytes ml ret Q D k n pc' ls st) (nextN : ¬ Cd cd x y → W Z EL R own nm bytes ml ret Q D k n (pc + 3) ls st) : W Z EL R own nm bytes ml ret Q D k n pc ls (.int y :: .int x :: st) := by
  by_cases q : Cd cd x y
  · exact W.icmpY pc' hd q ho (nextY q)
  · exact W.icmpN hd q (nextN q)
theorem W.ifY (pc' : Nat) {cd : ClassFile.Cond} {x : Int32} {o : Int} (hd : decode bytes pc = .ok (.ifCond cd o, 3)) (q : Cd cd x 0) (ho : 0 ≤ (pc : Int) + o ∧ ((pc : Int) + o).toNat = pc') (next : W Z EL R own nm bytes ml ret Q D k n pc' ls st) : W Z EL R own nm bytes ml ret Q D k n pc ls (.int x :: st) :=
  W.pure (fun h hx hc hr => XS.ifYes (g := mkF _ pc ls (.int x :: st)) h hx rfl rfl (hb hc hd) rfl ((if0 _ _).trans q.yes) ho.1 ho.2 hr) next
theorem W.ifN {cd : ClassFile.Cond} {x : Int32} {o : Int} (hd : decode bytes pc = .ok (.ifCond cd o, 3)) (q : ¬ Cd cd x 0) (next : W Z EL R own nm bytes ml ret Q D k n (pc + 3) ls st) : W Z EL R own nm bytes ml ret Q D k n pc ls (.int x :: st) :=
  W.pure (fun h hx hc hr => XS.ifNo (g := mkF _ pc ls (.int x :: st)) h hx rfl (hb hc hd) rfl ((if0 _ _).trans (Cd.no q)) hr) next
theorem W.if (pc' : Nat) {cd : ClassFile.Cond} {x : Int32} {o : Int} (hd : decode bytes pc = .ok (.ifCond cd o, 3)) (ho : 0 ≤ (pc : Int) + o ∧ ((pc : Int) + o).toNat = pc') (nextY : Cd cd x 0 → W Z EL R own nm bytes ml ret Q D k n pc' ls st) (nextN : ¬ Cd cd x 0 → W Z EL R own nm bytes ml ret Q D k n (pc + 3) ls st) : W Z EL R own nm bytes ml ret Q D k n pc ls (.int x :: st) := by
  by_cases q : Cd cd x 0
  · exact W.ifY pc' hd q ho (nextY q)
  · exact W.ifN hd q (nextN q)
theorem W.ifnullN {o : Int} {a : Addr} (hd : decode bytes pc = .ok (.ifnull o, 3)) (next : W Z EL R own nm bytes ml ret Q D k n (pc + 3) ls st) : W Z EL R own nm bytes ml ret Q D k n pc ls (.ref a :: st) :=
  W.pure (fun h hx hc hr => XS.ifnullNo (g := mkF _ pc ls (.ref a :: st)) h hx rfl (hb hc hd) rfl hr) next
theorem W.ifnonnullY (pc' : Nat) {o : Int} {a : Addr} (hd : decode bytes pc = .ok (.ifnonnull o, 3)) (ho : 0 ≤ (pc : Int) + o ∧ ((pc : Int) + o).toNat = pc') (next : W Z EL R own nm bytes ml ret Q D k n pc' ls st) : W Z EL R own nm bytes ml ret Q D k n pc ls (.ref a :: st) :=
  W.pure (fun h hx hc hr => XT.ifnonnullYes (g := mkF _ pc ls (.ref a :: st)) h hx rfl rfl (hb hc hd) rfl ho.1 ho.2 hr) next
theorem W.ifnonnullN {o : Int} (hd : decode bytes pc = .ok (.ifnonnull o, 3)) (next : W Z EL R own nm bytes ml ret Q D k n (pc + 3) ls st) : W Z EL R own nm bytes ml ret Q D k n pc ls (.null :: st) :=
  W.pure (fun h hx hc hr => XT.ifnonnullNo (g := mkF _ pc ls (.null :: st)) h hx rfl (hb hc hd) rfl hr) next
def Ca : ClassFile.ACond → Value → Value → Prop
  | .eq, x, y => x = y
  | .ne, x, y => ¬ x = y
theorem Ca.yes {cd : ClassFile.ACond} {x y : Value} (q : Ca cd x y) : XT.acmp cd x y = true := by
  cases cd
  · exact XT.aa_eq_t q
  · exact XT.aa_ne_t q
theorem Ca.no {cd : ClassFile.ACond} {x y : Value} (q : ¬ Ca cd x y) : XT.acmp cd x y = false := by
  cases cd
  · exact XT.aa_eq_f q
  · exact XT.aa_ne_f (Classical.not_not.mp q)
theorem W.acmpY (pc' : Nat) {cd : ClassFile.ACond} {x y : Value} {o : Int} (hd : decode bytes pc = .ok (.if_acmp cd o, 3)) (hx1 : x.isRef = true) (hy1 : y.isRef = true) (q : Ca cd x y) (ho : 0 ≤ (pc : Int) + o ∧ ((pc : Int) + o).toNat = pc') (next : W Z EL R own nm bytes ml ret Q D k n pc' ls st) : W Z EL R own nm bytes ml ret Q D k n pc ls (y :: x :: st) :=
  W.pure (fun h hx hc hr => XT.acmpYes (g := mkF _ pc ls (y :: x :: st)) h hx rfl rfl (hb hc hd) rfl hx1 hy1 q.yes ho.1 ho.2 hr) next
theorem W.acmpN {cd : ClassFile.ACond} {x y : Value} {o : Int} (hd : decode bytes pc = .ok (.if_acmp cd o, 3)) (hx1 : x.isRef = true) (hy1 : y.isRef = true) (q : ¬ Ca cd x y) (next : W Z EL R own nm bytes ml ret Q D k n (pc + 3) ls st) : W Z EL R own nm bytes ml ret Q D k n pc ls (y :: x :: st) :=
  W.pure (fun h hx hc hr => XT.acmpNo (g := mkF _ pc ls (y :: x :: st)) h hx rfl (hb hc hd) rfl hx1 hy1 (Ca.no q) hr) next
theorem W.acmp (pc' : Nat) {cd : ClassFile.ACond} {x y : Value} {o : Int} (hd : decode bytes pc = .ok (.if_acmp cd o, 3)) (hx1 : x.isRef = true) (hy1 : y.isRef = true) (ho : 0 ≤ (pc : Int) + o ∧ ((pc : Int) + o).toNat = pc') (nextY : Ca cd x y → W Z EL R own nm bytes ml ret Q D k n pc' ls st) (nextN : ¬ Ca cd x y → W Z EL R own nm bytes ml ret Q D k n (pc + 3) ls st) : W Z EL R own nm bytes ml ret Q D k n pc ls (y :: x :: st) := by
  by_cases q : Ca cd x y
  · exact W.acmpY pc' hd hx1 hy1 q ho (nextY q)
  · exact W.acmpN hd hx1 hy1 q (nextN q)
end Walk
end Jvm.Wk
namespace Jvm.Wk
open Jvm Jvm.ClassFile Sem Op Lib Bundle Jvm.Free Jvm.Stand Jvm.LawKit Jvm.RoadKit
section Walk
variable {Z : State} {EL : Bool × List (String × Nat)} {R : Room} {own nm : String} {bytes : ByteArray} {ml : Nat} {ret : Option FieldType} {Q : Option Value → List Ent → Prop} {D D' : List Ent} {k n pc : Nat} {ls ls' : Array Slot} {st : List Value} {a0 : Array Value}
theorem W.still {pc' : Nat} {st' : List Value}
    (H : ∀ {p : Program} {l : Launch} {e : Env} {s : State} {m : MethodId} {args : Array Value} {below : List Frame} {meth : Method} {c : Code} {T : State} {locs : List Loc} {cells slots : Nat}, Stand p l e R s m args below meth c T locs cells slots → p.tables.exec = Jvm.exec → c.code = bytes → c.maxLocals = ml → s.vm.findClass own = some m.cls → Z.Warmed39 s.vm → (∃ vm, Hp Z EL D vm T.heap) →
      ∃ T', Stand p l e R s m args below meth c T' locs cells slots ∧ T'.heap = T.heap ∧ ∀ target, Steps p.tables e below (T'.setTop (mkF m pc' ls' st')) target → Steps p.tables e below (T.setTop (mkF m pc ls st)) target)
    (next : W Z EL R own nm bytes ml ret Q D k n pc' ls' st') : W Z EL R own nm bytes ml ret Q D k n pc ls st := by
  intro p l e s m args below meth c T vm0 k0 locs cells slots A
  obtain ⟨X, hS, hk0, hx, hby, hml, hown, hZ, r1, r2, r3, hN, hH, hc, hl, hE, hNI⟩ := A
  obtain ⟨T', X', e', stp⟩ := H X hx hby hml hown hZ ⟨_, hH⟩
  obtain ⟨s₂, o, h1, r⟩ := next p l e s m args below meth c T' vm0 k0 locs cells slots ⟨X', hS, by rw [e']; exact hk0, hx, hby, hml, hown, hZ, r1, r2, r3, hN, by rw [e']; exact hH, hc, hl, hE, hNI⟩
  exact ⟨s₂, o, stp _ h1, r⟩
theorem W.getf {a : Addr} {b : Bool} {C O f d R0 : String} {fs : List Fd} {v : Value} {idx : Nat} (hd : decode bytes pc = .ok (.getfield idx, 3)) (w : (Cond.fieldLink own idx R0 f d).before a0 Z = true) (via : Via Z R0 O f d) (hm : (a, b, .inl (C, fs)) ∈ D) (hf : (O, f, d, v) ∈ fs)
    (next : W Z EL R own nm bytes ml ret Q D k n (pc + 3) ls (v :: st)) : W Z EL R own nm bytes ml ret Q D k n pc ls (.ref a :: st) :=
  W.still (fun X hx hby hml hown hZ hH => by
    obtain ⟨vm, hH⟩ := hH
    exact getF (host := "") X hx hZ hown (Or.inl w) via rfl ((hH.2.2.1 _ hm).1.2 _ hf) (g := mkF _ pc ls (.ref a :: st)) rfl rfl (hb hby hd)) next
theorem W.gets {O f d R0 : String} {v : Value} {idx : Nat} (hd : decode bytes pc = .ok (.getstatic idx, 3)) (w : (Cond.fieldLink own idx R0 f d).before a0 Z = true) (via : Via Z R0 O f d) (F : Sta Z Z.heap O f d v)
    (next : W Z EL R own nm bytes ml ret Q D k n (pc + 3) ls (v :: st)) : W Z EL R own nm bytes ml ret Q D k n pc ls st :=
  W.still (fun X hx hby hml hown hZ hH => by
    obtain ⟨vm, hH⟩ := hH
    exact getS (host := "") X hx hZ hown w via rfl (F.ext hH.1) (g := mkF _ pc ls st) rfl (hb hby hd)) next
theorem W.alen {a : Addr} {b : Bool} {ad : String} {ty : FieldType} {vs : List Value} (z : Int32) (hd : decode bytes pc = .ok (.arraylength, 1)) (hm : (a, b, .inr (ad, ty, vs)) ∈ D) (hz : Nat.toInt32 vs.length = z)
    (next : W Z EL R own nm bytes ml ret Q D k n (pc + 1) ls (.int z :: st)) : W Z EL R own nm bytes ml ret Q D k n pc ls (.ref a :: st) :=
  W.still (fun X hx hby hml hown hZ hH => by
    obtain ⟨vm, hH⟩ := hH
    obtain ⟨c, A, r1, -⟩ := (hH.2.2.1 _ hm).1
    refine ⟨_, X, rfl, fun target ht => ?_⟩
    refine X.arraylength hx A.1 (State.isArrayOf_alike hZ.alike A.2.1) (g := mkF _ pc ls (.ref a :: st)) rfl rfl (hb hby hd) target ?_
    rw [r1]
    have : vs.toArray.size = vs.length := by simp
    rw [this, hz]; exact ht) next
theorem idx_in' {j : Int32} {i : Nat} {vs : List Value} {c : Cell} (r1 : c.slots = vs.toArray) (hj : Idx j i) (hi : i < vs.length) : ¬ (j < 0 ∨ c.slots.size ≤ j.toNatClampNeg) := by
  rw [r1, hj.2]; rintro (q | q)
  · exact hj.1 q
  · simp at q; omega
theorem idx_at' {j : Int32} {i : Nat} {vs : List Value} {c : Cell} {v : Value} (r1 : c.slots = vs.toArray) (hj : Idx j i) (hv : vs[i]? = some v) : c.slots[j.toNatClampNeg]? = some v := by
  rw [r1, hj.2]; simpa using hv
theorem lt_of_at {vs : List Value} {i : Nat} {v : Value} (hv : vs[i]? = some v) : i < vs.length := (List.getElem?_eq_some_iff.mp hv).1
theorem W.caload {a : Addr} {b : Bool} {ad : String} {vs : List Value} {j : Int32} (i : Nat) {v : Value} (hd : decode bytes pc = .ok (.caload, 1)) (hm : (a, b, .inr (ad, .char, vs)) ∈ D) (hj : Idx j i) (hv : vs[i]? = some v)
    (next : W Z EL R own nm bytes ml ret Q D k n (pc + 1) ls (v :: st)) : W Z EL R own nm bytes ml ret Q D k n pc ls (.int j :: .ref a :: st) :=
  W.still (fun X hx hby hml hown hZ hH => by
    obtain ⟨vm, hH⟩ := hH
    obtain ⟨c, A, r1, -⟩ := (hH.2.2.1 _ hm).1
    exact ⟨_, X, rfl, fun target ht => X.caload hx A.1 (State.isArrayOf_alike hZ.alike A.2.1) A.2.2 (idx_in' r1 hj (lt_of_at hv)) (idx_at' r1 hj hv) (g := mkF _ pc ls (.int j :: .ref a :: st)) rfl rfl (hb hby hd) target ht⟩) next
theorem W.baload {a : Addr} {b : Bool} {ad : String} {vs : List Value} {j : Int32} (i : Nat) {v : Value} (hd : decode bytes pc = .ok (.baload, 1)) (hm : (a, b, .inr (ad, .byte, vs)) ∈ D) (hj : Idx j i) (hv : vs[i]? = some v)
    (next : W Z EL R own nm bytes ml ret Q D k n (pc + 1) ls (v :: st)) : W Z EL R own nm bytes ml ret Q D k n pc ls (.int j :: .ref a :: st) :=
  W.still (fun X hx hby hml hown hZ hH => by
    obtain ⟨vm, hH⟩ := hH
    obtain ⟨c, A, r1, -⟩ := (hH.2.2.1 _ hm).1
    exact ⟨_, X, rfl, fun target ht => X.baloadBytes hx A.1 (State.isArrayOf_alike hZ.alike A.2.1) A.2.2 (idx_in' r1 hj (lt_of_at hv)) (idx_at' r1 hj hv) (g := mkF _ pc ls (.int j :: .ref a :: st)) rfl rfl (hb hby hd) target ht⟩) next
theorem W.ldcI {idx : Nat} {v : Int32} (hd : decode bytes pc = .ok (.ldc idx, 2)) (w : (Cond.constant own idx v).before a0 Z = true) (next : W Z EL R own nm bytes ml ret Q D k n (pc + 2) ls (.int v :: st)) : W Z EL R own nm bytes ml ret Q D k n pc ls st :=
  W.still (fun X hx hby hml hown hZ hH => ⟨_, X, rfl, fun target ht => X.ldcI hx hown (mvT hZ w) (g := mkF _ pc ls st) rfl (hb hby hd) ht⟩) next
theorem W.castY {a : Addr} {K : String} {idx : Nat} (hd : decode bytes pc = .ok (.checkcast idx, 3)) (w : (Cond.classLink own idx K).before a0 Z = true) (hI : ∀ vm h, Hp Z EL D vm h → Ins Z h a K true) (next : W Z EL R own nm bytes ml ret Q D k n (pc + 3) ls (.ref a :: st)) : W Z EL R own nm bytes ml ret Q D k n pc ls (.ref a :: st) :=
  W.still (fun X hx hby hml hown hZ hH => by
    obtain ⟨vm, hH⟩ := hH
    exact Jvm.RoadKit.castY X hx hZ hown w rfl (hI _ _ hH) (g := mkF _ pc ls (.ref a :: st)) rfl rfl (hb hby hd)) next
theorem Hp.exa {D : List Ent} {a : Addr} {b : Bool} {C : String} {fs : List Fd} (hm : (a, b, .inl (C, fs)) ∈ D) : ∀ vm h, Hp Z EL D vm h → Exa Z h a C := fun _ _ H => (H.2.2.1 _ hm).1.1
theorem Hp.ins {D : List Ent} {a : Addr} {b : Bool} {C : String} {fs : List Fd} (hm : (a, b, .inl (C, fs)) ∈ D) : ∀ vm h, Hp Z EL D vm h → Ins Z h a C true := fun _ _ H => Ins.self (H.2.2.1 _ hm).1.1
theorem Hp.exaA {D : List Ent} {a : Addr} {b : Bool} {ad : String} {ty : FieldType} {vs : List Value} (hm : (a, b, .inr (ad, ty, vs)) ∈ D) (hne : ad ≠ "") : ∀ vm h, Hp Z EL D vm h → Exa Z h a ad := fun _ _ H => by
  obtain ⟨c, -, -, -, -, r⟩ := (H.2.2.1 _ hm).1; exact r hne
theorem Hp.insA {D : List Ent} {a : Addr} {b : Bool} {ad : String} {ty : FieldType} {vs : List Value} (hm : (a, b, .inr (ad, ty, vs)) ∈ D) (hne : ad ≠ "") : ∀ vm h, Hp Z EL D vm h → Ins Z h a ad true := fun vm h H => Ins.self (Hp.exaA hm hne vm h H)
theorem W.initO {a : Addr} {idx : Nat} (Wt : Nat) (hd : decode bytes pc = .ok (.invokespecial idx, 3)) (w1 : (Cond.methodLink own idx Lib.objectInit).before a0 Z = true) (w2 : (Cond.instanceMethod Lib.objectInit).before a0 Z = true) (w3 : (Cond.code Lib.objectInit ⟨#[0xb1]⟩ 1 none).before a0 Z = true)
    (hls : ls.size = ml) (hW : (st.map fun v => v.category).sum = Wt) (hr : 1 ≤ R.frames ∧ Wt + 12 ≤ R.locals) (next : W Z EL R own nm bytes ml ret Q D k n (pc + 3) ls st) : W Z EL R own nm bytes ml ret Q D k n pc ls (.ref a :: st) :=
  W.still (fun X hx hby hml hown hZ hH => Jvm.RoadKit.initO X hx hZ hown w1 w2 w3 rfl (g := mkF _ pc ls (.ref a :: st)) rfl (by rw [hml]; exact hls) rfl (hb hby hd) hr.1 (W := Wt) (by show 2 * 0 + _ ≤ _; omega) hr.2) next
def LaidAll (Z : State) (a0 : Array Value) (C : String) : List Fd → Prop
  | [] => True
  | f :: r => (Laid Z a0 C f.1 f.2.1 f.2.2.1 ∧ ∃ ty, parseFieldDescriptor f.2.2.1 = some ty ∧ f.2.2.2 = defaultValue ty) ∧ LaidAll Z a0 C r
theorem LaidAll.mem {C : String} : ∀ {fs : List Fd}, LaidAll Z a0 C fs → ∀ f ∈ fs, Laid Z a0 C f.1 f.2.1 f.2.2.1 ∧ ∃ ty, parseFieldDescriptor f.2.2.1 = some ty ∧ f.2.2.2 = defaultValue ty
  | [], _, _, q => nomatch q
  | f :: r, L, g, q => by
    rcases List.mem_cons.mp q with rfl | q
    · exact L.1
    · exact LaidAll.mem L.2 g q
theorem LaidAll.dist {C : String} : ∀ {fs : List Fd}, LaidAll Z a0 C fs → (fs.map (·.2.1)).Pairwise (fun x y => x ≠ y) → (fs.map (sl Z)).Pairwise (fun x y => x ≠ y)
  | [], _, _ => List.Pairwise.nil
  | f :: r, L, N => by
    obtain ⟨n1, n2⟩ := List.pairwise_cons.mp N
    refine List.pairwise_cons.mpr ⟨fun y hy => ?_, LaidAll.dist L.2 n2⟩
    obtain ⟨g, hg, rfl⟩ := List.mem_map.mp hy
    obtain ⟨l1, t1, q1, -⟩ := L.1
    obtain ⟨l2, t2, q2, -⟩ := LaidAll.mem L.2 g hg
    exact slot_ne l1 l2 (n1 _ (List.mem_map.mpr ⟨g, hg, rfl⟩)) q1 q2
theorem W.new {C : String} {idx nn : Nat} {fs : List Fd} (hd : decode bytes pc = .ok (.new idx, 3)) (w : (Cond.classLink own idx C).before a0 Z = true) (wi : (Cond.instantiable C nn).before a0 Z = true) (wz : (Cond.initialized C).before a0 Z = true)
    (hfs : LaidAll Z a0 C fs) (hnm : (fs.map (·.2.1)).Pairwise (fun x y => x ≠ y)) (hr : k + 1 ≤ R.cells ∧ n + nn ≤ R.slots) (next : ∀ a, W Z EL R own nm bytes ml ret Q ((a, true, .inl (C, fs)) :: D) (k + 1) (n + nn) (pc + 3) ls (.ref a :: st)) : W Z EL R own nm bytes ml ret Q D k n pc ls st := by
  intro p l e s m args below meth c T vm0 k0 locs cells slots A
  obtain ⟨X, hS, hk0, hx, hby, hml, hown, hZ, r1, r2, r3, hN, hH, hc, hl, hE, hNI⟩ := A
  obtain ⟨T', h', X', e', E, A2, D2, -, stp⟩ := newO X hx hZ hown w wi wz rfl (g := mkF m pc ls st) rfl (hb hby hd) (by omega) (by omega)
  have H' : Hp Z EL ((T.heap.size, true, .inl (C, fs)) :: D) vm0 h' := hH.new E ⟨A2, fun f hf => by
    obtain ⟨l1, ty, q1, q2⟩ := hfs.mem f hf
    rw [q2]; exact D2 l1 q1⟩ (hfs.dist hnm)
  obtain ⟨s₂, o, h1, r⟩ := next T.heap.size p l e s m args below meth c T' vm0 k0 locs (cells + 1) (slots + nn) ⟨X', hS, by rw [e']; exact Nat.le_trans hk0 E.1, hx, hby, hml, hown, hZ, r1, r2, r3, hN, by rw [e']; exact H', by omega, by omega, hE, hNI⟩
  exact ⟨s₂, o, stp _ h1, r⟩
theorem fits_default (ty : FieldType) : fits ty (defaultValue ty) = true := by cases ty <;> rfl
theorem W.newarr {aty : ArrayType} {z : Int32} (N : Nat) {ad : String} {ty : FieldType} (hd : decode bytes pc = .ok (.newarray aty, 2)) (hty : newarray.typeOf aty = ty) (w : (Cond.arrayClass ty).before a0 Z = true) (hz : Idx z N) (had : "[" ++ ty.toString = ad) (hb8 : N * 8 ≤ 536870912) (hr : k + 1 ≤ R.cells ∧ n + N ≤ R.slots)
    (next : ∀ a, W Z EL R own nm bytes ml ret Q ((a, true, .inr (ad, ty, List.replicate N (defaultValue ty))) :: D) (k + 1) (n + N) (pc + 2) ls (.ref a :: st)) : W Z EL R own nm bytes ml ret Q D k n pc ls (.int z :: st) := by
  intro p l e s m args below meth c T vm0 k0 locs cells slots A
  subst hty
  obtain ⟨X, hS, hk0, hx, hby, hml, hown, hZ, r1, r2, r3, hN, hH, hc, hl, hE, hNI⟩ := A
  obtain ⟨T', h', cA, X', e', E, A2, E2, stp⟩ := newPE X hx hZ w rfl (g := mkF m pc ls (.int z :: st)) rfl (hb hby hd) rfl hz.1 (cap := N) (by rw [hz.2]; exact Nat.le_refl _) hb8 (by omega) (by omega) had
  have H' : Hp Z EL ((T.heap.size, true, .inr (ad, newarray.typeOf aty, List.replicate N (defaultValue (newarray.typeOf aty)))) :: D) vm0 h' := hH.new E ⟨_, A2, by simp [newA, hz.2], by simp; omega, fun v hv => by rw [(List.mem_replicate.mp hv).2]; exact fits_default _, fun _ => E2⟩ trivial
  obtain ⟨s₂, o, h1, r⟩ := next T.heap.size p l e s m args below meth c T' vm0 k0 locs (cells + 1) (slots + N) ⟨X', hS, by rw [e']; exact Nat.le_trans hk0 E.1, hx, hby, hml, hown, hZ, r1, r2, r3, hN, by rw [e']; exact H', by omega, by omega, hE, hNI⟩
  exact ⟨s₂, o, stp _ h1, r⟩
theorem pw_ne {l : List Nat} (P : l.Pairwise (fun x y => x ≠ y)) {i j : Nat} {x y : Nat} (hij : i ≠ j) (hi : l[i]? = some x) (hj : l[j]? = some y) : x ≠ y := by
  obtain ⟨i1, rfl⟩ := List.getElem?_eq_some_iff.mp hi
  obtain ⟨j1, rfl⟩ := List.getElem?_eq_some_iff.mp hj
  rw [List.pairwise_iff_getElem] at P
  rcases Nat.lt_or_gt_of_ne hij with q | q
  · exact P i j i1 j1 q
  · exact (P j i j1 i1 q).symm
theorem set_map_sl {fs : List Fd} {j : Nat} {f g : Fd} (hj : fs[j]? = some f) (e : sl Z g = sl Z f) : (fs.set j g).map (sl Z) = fs.map (sl Z) := by
  rw [List.map_set, e]
  apply List.ext_getElem?
  intro i
  rw [List.getElem?_set]
  split
  · rename_i q; subst q
    rw [List.getElem?_map, hj]
    have := (List.getElem?_eq_some_iff.mp hj).1
    simp [this]
  · rfl
theorem Sat.put {h h' : Heap} {a : Addr} {C O f d : String} {fs : List Fd} {j : Nat} {old v : Value} (S : Sat Z h a (.inl (C, fs))) (hD : Dist Z (.inl (C, fs))) (hj : fs[j]? = some (O, f, d, old)) (Wr1 : Wr h h' a (Jvm.RoadKit.slotOf Z O f d) v) : Sat Z h' a (.inl (C, fs.set j (O, f, d, v))) := by
  refine ⟨S.1.wr Wr1, fun g hg => ?_⟩
  obtain ⟨i, hi⟩ := List.mem_iff_getElem?.mp hg
  rw [List.getElem?_set] at hi
  split at hi
  · rename_i q; subst q
    split at hi
    · cases hi; exact (S.2 _ (List.mem_of_getElem? hj)).same Wr1
    · cases hi
  · rename_i q
    refine (S.2 g (List.mem_of_getElem? hi)).other Wr1 (Or.inr ?_)
    exact pw_ne hD (Ne.symm q) (x := sl Z g) (y := sl Z (O, f, d, old)) (by rw [List.getElem?_map, hi]; rfl) (by rw [List.getElem?_map, hj]; rfl)
theorem W.putf {a : Addr} {C O f d R0 : String} {fs : List Fd} {old v : Value} {idx kk : Nat} {ty : FieldType} (i j : Nat) (hd : decode bytes pc = .ok (.putfield idx, 3)) (w : (Cond.fieldLink own idx R0 f d).before a0 Z = true) (via : Via Z R0 O f d)
    (hi : D[i]? = some (a, true, .inl (C, fs))) (hj : fs[j]? = some (O, f, d, old)) (L : (Cond.lays C O f d).before a0 Z = true ∨ ((Cond.laysFinal C O f d).before a0 Z = true ∧ own = O ∧ nm = "<init>")) (wi : (Cond.instantiable C kk).before a0 Z = true)
    (hty : parseFieldDescriptor d = some ty) (hn : narrow ty v = v) (hf : fits ty v = true) (hD : D.set i (a, true, .inl (C, fs.set j (O, f, d, v))) = D')
    (next : W Z EL R own nm bytes ml ret Q D' k n (pc + 3) ls st) : W Z EL R own nm bytes ml ret Q D k n pc ls (v :: .ref a :: st) := by
  intro p l e s m args below meth c T vm0 k0 locs cells slots A
  obtain ⟨X, hS, hk0, hx, hby, hml, hown, hZ, r1, r2, r3, hN, hH, hc, hl, hE, hNI⟩ := A
  subst hD
  obtain ⟨S, g⟩ := hH.2.2.1 _ (List.mem_of_getElem? hi)
  obtain ⟨T', h', X', e', W1, stp⟩ := putF (host := "") X hx hZ hown (Or.inl w) via rfl (S.2 _ (List.mem_of_getElem? hj)) S.1 (L.imp id fun q => ⟨q.1, q.2.1, r3.trans q.2.2⟩) wi hty hn hf (g := mkF m pc ls (v :: .ref a :: st)) rfl rfl (hb hby hd)
  obtain ⟨g1, g2, g3⟩ := g rfl
  have H' := hH.keepSet (d' := .inl (C, fs.set j (O, f, d, v))) hi (Keep.of_wr W1) (Sat.put S g3 hj W1) (by show List.Pairwise _ _; rw [set_map_sl (Z := Z) (g := (O, f, d, v)) hj rfl]; exact g3)
  obtain ⟨s₂, o, q1, r⟩ := next p l e s m args below meth c T' vm0 k0 _ cells slots ⟨X', hS, by rw [e', W1.size]; exact hk0, hx, hby, hml, hown, hZ, r1, r2, r3, Fr.snoc X' hN g1, by rw [e']; exact H', hc, hl, hE, hNI⟩
  exact ⟨s₂, o, stp _ q1, r⟩
theorem Sat.store {h h' : Heap} {a : Addr} {ad : String} {ty : FieldType} {vs : List Value} {i : Nat} {v : Value} (S : Sat Z h a (.inr (ad, ty, vs))) (hv : fits ty v = true) (W1 : Wr h h' a i v) : Sat Z h' a (.inr (ad, ty, vs.set i v)) := by
  obtain ⟨c, A, r1, r2, r3, r4⟩ := S
  refine ⟨_, A.same W1, ?_, by simpa using r2, fun x hx => ?_, fun q => (r4 q).wr W1⟩
  · simp [Cell.setSlot, r1]
  · rcases List.mem_or_eq_of_mem_set hx with hx | rfl
    · exact r3 x hx
    · exact hv
theorem W.stA {a : Addr} {ad : String} {ty : FieldType} {vs : List Value} {i j : Nat} {v : Value} {st' : List Value} {pc' : Nat}
    (H : ∀ {p : Program} {l : Launch} {e : Env} {s : State} {m : MethodId} {args : Array Value} {below : List Frame} {meth : Method} {c : Code} {T : State} {locs : List Loc} {cells slots : Nat} {cl : Cell}, Stand p l e R s m args below meth c T locs cells slots → p.tables.exec = Jvm.exec → c.code = bytes → Z.Warmed39 s.vm → Arr Z T.heap a cl ty → cl.slots = vs.toArray →
      ∃ T' h', Stand p l e R s m args below meth c T' (locs ++ [⟨a, j⟩]) cells slots ∧ T'.heap = h' ∧ Wr T.heap h' a j v ∧ ∀ target, Steps p.tables e below (T'.setTop (mkF m pc' ls st')) target → Steps p.tables e below (T.setTop (mkF m pc ls st)) target)
    (hi : D[i]? = some (a, true, .inr (ad, ty, vs))) (hf : fits ty v = true) (hD : D.set i (a, true, .inr (ad, ty, vs.set j v)) = D')
    (next : W Z EL R own nm bytes ml ret Q D' k n pc' ls st') : W Z EL R own nm bytes ml ret Q D k n pc ls st := by
  intro p l e s m args below meth c T vm0 k0 locs cells slots A
  obtain ⟨X, hS, hk0, hx, hby, hml, hown, hZ, r1, r2, r3, hN, hH, hc, hl, hE, hNI⟩ := A
  subst hD
  obtain ⟨S, g⟩ := hH.2.2.1 _ (List.mem_of_getElem? hi)
  obtain ⟨cl, A, q1, -⟩ := id S
  obtain ⟨T', h', X', e', W1, stp⟩ := H X hx hby hZ A q1
  obtain ⟨g1, g2, g3⟩ := g rfl
  have H' := hH.keepSet hi (Keep.of_wr W1) (Sat.store S hf W1) trivial
  obtain ⟨s₂, o, q1, r⟩ := next p l e s m args below meth c T' vm0 k0 _ cells slots ⟨X', hS, by rw [e', W1.size]; exact hk0, hx, hby, hml, hown, hZ, r1, r2, r3, Fr.snoc X' hN g1, by rw [e']; exact H', hc, hl, hE, hNI⟩
  exact ⟨s₂, o, stp _ q1, r⟩
theorem W.castore {a : Addr} {ad : String} {vs : List Value} {z x x' : Int32} (i j : Nat) (hd : decode bytes pc = .ok (.castore, 1)) (hi : D[i]? = some (a, true, .inr (ad, .char, vs))) (hz : Idx z j) (hj : j < vs.length) (hx' : nar .char x = x')
    (hD : D.set i (a, true, .inr (ad, .char, vs.set j (.int x'))) = D') (next : W Z EL R own nm bytes ml ret Q D' k n (pc + 1) ls st) : W Z EL R own nm bytes ml ret Q D k n pc ls (.int x :: .int z :: .ref a :: st) :=
  W.stA (i := i) (j := j) (fun X hx hby hZ A q => by
    have r := stC X hx hZ rfl A (j := z) (x := x) (idx_in' q hz hj) (g := mkF _ pc ls (.int x :: .int z :: .ref a :: st)) rfl rfl (hb hby hd)
    rw [hz.2, hx'] at r; exact r) hi (by rw [← hx']; exact fits_nar_char x) hD next
theorem W.bastore {a : Addr} {ad : String} {vs : List Value} {z x x' : Int32} (i j : Nat) (hd : decode bytes pc = .ok (.bastore, 1)) (hi : D[i]? = some (a, true, .inr (ad, .byte, vs))) (hz : Idx z j) (hj : j < vs.length) (hx' : nar .byte x = x')
    (hD : D.set i (a, true, .inr (ad, .byte, vs.set j (.int x'))) = D') (next : W Z EL R own nm bytes ml ret Q D' k n (pc + 1) ls st) : W Z EL R own nm bytes ml ret Q D k n pc ls (.int x :: .int z :: .ref a :: st) :=
  W.stA (i := i) (j := j) (fun X hx hby hZ A q => by
    have r := stB X hx hZ rfl A (j := z) (x := x) (idx_in' q hz hj) (g := mkF _ pc ls (.int x :: .int z :: .ref a :: st)) rfl rfl (hb hby hd)
    rw [hz.2, hx'] at r; exact r) hi (by rw [← hx']; exact fits_nar_byte x) hD next
abbrev dStr (c : Int32) (v : Value) : Desc := .inl ("java/lang/String", [("java/lang/String", "value", "[B", v), ("java/lang/String", "coder", "B", .int c)])
theorem W.ldcT {idx : Nat} {text : String} (N : Nat) {vs : List Value} (hni : EL.1 = false) (hd : decode bytes pc = .ok (.ldc idx, 2)) (w : (Cond.stringLink own idx text).before a0 Z = true) (wS : ∀ a ∈ Bundle.stringAtoms, a.before a0 Z = true) (hmem : (own, idx) ∈ EL.2)
    (ht : (∀ c ∈ text.toList, c.toNat < 256) ∧ text.toList.map (fun c => Value.int (Jvm.Lit.byteI c.toNat.toUInt16)) = vs) (hn : 4 * text.toList.length ≤ N) (hbig : N ≤ 536870912) (hr : k + 2 ≤ R.cells ∧ n + (N + 4) ≤ R.slots)
    (next : ∀ a b, W Z EL R own nm bytes ml ret Q ((a, false, dStr 0 (.ref b)) :: (b, false, .inr ("", .byte, vs)) :: D) (k + 2) (n + (N + 4)) (pc + 2) ls (.ref a :: st)) : W Z EL R own nm bytes ml ret Q D k n pc ls st := by
  intro p l e s m args below meth c T vm0 k0 locs cells slots A
  obtain ⟨X, hS, hk0, hx, hby, hml, hown, hZ, r1, r2, r3, hN, hH, hc, hl, ⟨⟨b0, hE⟩, hNL⟩, hNI⟩ := A
  have hE' : EW Z a0 EL.2 := fun q hq => by
    obtain ⟨t, ht, r⟩ := hE q hq
    exact ⟨t, by have := mvS (s := Z) (args := a0) (State.Warmed39.refl Z) ht; simpa using this, r⟩
  have hlen : vs.length = text.toList.length := by rw [← ht.2]; simp
  have hv31 : vs.length < 2147483648 := by omega
  have iz := Idx.of_nat hv31
  obtain ⟨a, T', h', k1, b, kk, X', e', E, hS', hk1, hZ', hown', F1, F2, F3, F4, g1, g2, hC, -, hne, stp⟩ := ldcCH X hx hZ hown w wS rfl hS hk0 hE' hmem hH.2.1 (z := Nat.toInt32 vs.length) ht iz.1 iz.2 (g := mkF m pc ls st) rfl (hb hby hd) hn hbig (by omega) (by omega)
  have hH1 := hH.grown E hC
  have hH2 : Hp Z EL ((b, false, .inr ("", .byte, vs)) :: D) T'.vm h' := hH1.read (Sat.of_arv F4 iz.2 fun q => absurd rfl q) fun x q _ => (hne x q).2
  have hH3 : Hp Z EL ((a, false, dStr 0 (.ref b)) :: (b, false, .inr ("", .byte, vs)) :: D) T'.vm h' := hH2.read ⟨F1, fun f hf => by
    rcases List.mem_cons.mp hf with rfl | hf
    · exact F3
    · cases List.mem_singleton.mp hf; exact F2⟩ fun x q _ => (hne x q).1
  obtain ⟨s₂, o, q1, r⟩ := next a b p l e s m args below meth c T' T'.vm k1 locs (cells + 2) (slots + (N + 4)) ⟨X', hS', by rw [e']; exact hk1, hx, hby, hml, hown', hZ', r1, r2, r3, hN, by rw [e']; exact hH3, by omega, by omega, ⟨⟨b0, hE⟩, hNL⟩, fun q => by rw [hni] at q; cases q⟩
  exact ⟨s₂, o, stp _ q1, r⟩
theorem W.out {v : Option Value} (hk : k ≤ R.cells ∧ n ≤ R.slots) (hv : ret = none → v = none) (q : Q v D)
    (H : ∀ {p : Program} {l : Launch} {e : Env} {s : State} {m : MethodId} {args : Array Value} {below : List Frame} {meth : Method} {c : Code} {T : State} {locs : List Loc} {cells slots : Nat} {fs : List Frame}, Stand p l e R s m args below meth c T locs cells slots → p.tables.exec = Jvm.exec → c.code = bytes → meth.sig.returnType = ret →
      (∀ (f : JFrame) (acts : List Action), f.method = m → f.locked = none → f.entered = [] → (doReturn e (T.setTop f) acts v).1 = T.setFrames fs) → Steps p.tables e below (T.setTop (mkF m pc ls st)) (T.setFrames fs)) : W Z EL R own nm bytes ml ret Q D k n pc ls st := by
  intro p l e s m args below meth c T vm0 k0 locs cells slots A
  obtain ⟨X, hS, hk0, hx, hby, hml, hown, hZ, r1, r2, r3, hN, hH, hc, hl, ⟨⟨b0, hE⟩, hNL⟩, hNI⟩ := A
  obtain ⟨fs, h1, h2, h3, ⟨h4, h5, h6, h7⟩⟩ := X.leaveW hS hk0 (v := v) (fun z => hv (r1 ▸ z)) r2
  refine ⟨_, _, H X hx hby r1 h1, h2, h3, v, locs, rfl, hN, ⟨D, (show Hp Z EL D T.vm T.heap from hH.toVm (CHv.at X hZ hE hH.2.1)), q⟩, ⟨h4, h5, h6, h7.mono (by omega) (by omega)⟩, fun q => ?_⟩
  have := X.warmed
  rw [hNI q] at this; exact this
theorem W.ireturn {x : Int32} {t : FieldType} (hd : decode bytes pc = .ok (.ireturn, 1)) (hret : ret = some t) (ht : t = .int ∨ t = .boolean ∨ t = .byte ∨ t = .char ∨ t = .short) (hn : narrow t (.int x) = .int x) (hk : k ≤ R.cells ∧ n ≤ R.slots) (q : Q (some (.int x)) D) : W Z EL R own nm bytes ml ret Q D k n pc ls (.int x :: st) :=
  W.out hk (fun z => by rw [hret] at z; cases z) q (fun X hx hby hr hl => retOut X hx (hr.trans hret) hn (Or.inl ⟨rfl, ht, x, rfl⟩) (hb hby hd) hl)
theorem W.areturn {v : Value} {t : FieldType} (hd : decode bytes pc = .ok (.areturn, 1)) (hret : ret = some t) (ht : t.isReference = true) (hv : v.isRef = true) (hk : k ≤ R.cells ∧ n ≤ R.slots) (q : Q (some v) D) : W Z EL R own nm bytes ml ret Q D k n pc ls (v :: st) :=
  W.out hk (fun z => by rw [hret] at z; cases z) q (fun X hx hby hr hl => retOut X hx (hr.trans hret) (by cases t <;> first | rfl | cases ht) (Or.inr (Or.inr (Or.inr (Or.inr ⟨rfl, ht, hv⟩)))) (hb hby hd) hl)
theorem W.return_ (hd : decode bytes pc = .ok (.return_, 1)) (hret : ret = none) (hk : k ≤ R.cells ∧ n ≤ R.slots) (q : Q none D) : W Z EL R own nm bytes ml ret Q D k n pc ls [] :=
  W.out hk (fun _ => rfl) q (fun X hx hby hr hl => X.returnOut hx (hr.trans hret) (hb hby hd) hl)
end Walk
end Jvm.Wk
namespace Jvm.Wk
open Jvm Jvm.ClassFile Sem Op Lib Bundle Jvm.Free Jvm.Stand Jvm.LawKit Jvm.RoadKit
theorem same_self {Z : State} {a0 : Array Value} {y y2 : MethodName} {C : String} (hc : y2.cls = y.cls) (hy : y.cls ≠ "java/lang/invoke/MethodHandle" ∧ y.cls ≠ "java/lang/invoke/VarHandle") (wi : (Cond.instanceMethod y).before a0 Z = true) (wi2 : (Cond.instanceMethod y2).before a0 Z = true) (wse : (Cond.selects C y2 y2).before a0 Z = true) : (Cond.sameMethod y.cls y.cls y.name y.desc).before a0 Z = true := by
  obtain ⟨mk, meth, hn, -⟩ := Cond.instanceMethod_spec wi
  obtain ⟨mk2, meth2, hn2, -⟩ := Cond.instanceMethod_spec wi2
  have hf := State.methodFound?_of_named hn hy
  have h1 := findClass_of_methodNamed hn
  have h2 := findClass_of_methodNamed hn2
  obtain ⟨kr, hkr, hni⟩ := notFace_of_selects (args := a0) wse mk2 hn2
  rw [hc, h1] at h2
  have h3 := Option.some.inj h2
  rw [← h3] at hkr
  simp [Cond.before, Cond.holds, Cond.value, h1, hf, hn, hkr, hni]
theorem notFace_by {s : State} {args : Array Value} {y y2 : MethodName} {C : String} (hc : y2.cls = y.cls) (wi2 : (Cond.instanceMethod y2).before args s = true) (wse : (Cond.selects C y2 y2).before args s = true) : NotFace s y := fun r0 h0 => by
  obtain ⟨mk2, meth2, hn2, -⟩ := Cond.instanceMethod_spec wi2
  have h2 := findClass_of_methodNamed hn2
  rw [hc, findClass_of_methodNamed h0] at h2
  have h3 := Option.some.inj h2
  rw [h3]; exact notFace_of_selects wse mk2 hn2
section Calls
variable {Z : State} {EL : Bool × List (String × Nat)} {R : Room} {own nm : String} {bytes : ByteArray} {ml : Nat} {ret : Option FieldType} {Q : Option Value → List Ent → Prop} {D D' : List Ent} {k n pc : Nat} {ls ls' : Array Slot} {st : List Value} {a0 : Array Value}
variable {y : MethodName} {cb : ByteArray} {cm : Nat} {cr : Option FieldType} {rm : Room} {as : List Value} {Q' : Option Value → List Ent → Prop} {idx : Nat}
abbrev CPre (Z : State) (EL : Bool × List (String × Nat)) (R rm : Room) (D : List Ent) (vm0 : Vm) (as : List Value) : Pt → Array Value → Prop := fun A a => a = as.toArray ∧ Hp Z EL D vm0 A.U.heap ∧ A.cells + rm.cells ≤ R.cells ∧ A.slots + rm.slots ≤ R.slots
abbrev CPost (Z : State) (EL : Bool × List (String × Nat)) (rm : Room) (Q' : Option Value → List Ent → Prop) : Pt → Array Value → Option Value → Pt → Prop :=
  fun A _ v B => ∃ L D', Fr Z.heap.size L ∧ Hp Z EL D' B.U.vm B.U.heap ∧ Q' v D' ∧ B.locs = A.locs ++ L ∧ B.cells = A.cells + rm.cells ∧ B.slots = A.slots + rm.slots ∧ (EL.1 = true → A.U.WarmedH B.U.vm)
theorem conBack {p : Program} {l : Launch} {e : Env} {s : State} {args : Array Value} {below : List Frame} {vm0 : Vm} {len Wt : Nat} (hC : Con Z EL y cb cm cr rm as D Q') (hZ : Z.Warmed39 vm0) (wc : (Cond.code y cb cm cr).before a0 Z = true) (wz : (Cond.initialized y.cls).before a0 Z = true) (hE : ELok Z EL)
    (hf : rm.frames + 1 ≤ R.frames) (hl : Wt + (cm + 11) + rm.locals ≤ R.locals) : BackS l R p e below (s.setVm vm0) args y len Wt (CPre Z EL R rm D vm0 as) (CPost Z EL rm Q') := by
  obtain ⟨⟨b0, hE0⟩, hNL⟩ := id hE
  exact BackS.of_freeW (bytes := cb) (maxL := cm) (ret := cr) (E := fun _ first o t L k n => k = rm.cells ∧ n = rm.slots ∧ Fr Z.heap.size L ∧ (EL.1 = true → first.WarmedH t.vm) ∧ ∃ v, o = .returned v ∧ ∃ D', Hp Z EL D' t.vm t.heap ∧ Q' v D') (hC hE l []) hf hl
    (fun m meth c A a Y hp => have hU : Z.Warmed39 A.U.vm := wtrans (s := s.setVm vm0) hZ Y.warmed
      ⟨by show (Cond.and _ .tt).before a A.U = true; rw [Cond.before_and, mv hU wc]; rfl, mv hU wc, mv hU wz, hp.2.2.1, hp.2.2.2⟩)
    (fun m meth c A a g mk Y hp => ⟨hp.1, wtrans (s := s.setVm vm0) hZ Y.warmed, (show Hp Z EL D A.U.vm A.U.heap from hp.2.1.toVm (CHv.at Y hZ hE0 hp.2.1.2.1))⟩) (fun _ _ _ _ _ _ _ _ _ => trivial)
    (fun _ _ _ _ ⟨v, L, h1, h2, h3, h4, h5⟩ => ⟨L, _, _, h4, rfl, rfl, h2, h5, v, h1, h3⟩)
    (fun m meth c A a g mk v t L k n Y hp _ _ ⟨e1, e2, e3, e7, v', e4, D', e5, e6⟩ => by
      cases e4; subst e1 e2
      exact ⟨L, D', e3, e5, e6, rfl, rfl, rfl, e7⟩)
theorem W.afterCall {p : Program} {l : Launch} {e : Env} {s : State} {m : MethodId} {args : Array Value} {below : List Frame} {meth : Method} {c : Code} {T : State} {vm0 : Vm} {k0 : Nat} {locs : List Loc} {cells slots : Nat} {len : Nat} {rest : List Value} {aa : Array Value}
    (A : Here Z EL R own nm bytes ml ret D k n p l e s m args below meth c T vm0 k0 locs cells slots)
    (hB : ∃ (v : Option Value) (vm₁ : Vm) (B : Pt), (s.setVm vm0).WarmedH vm₁ ∧ Stand p l e R ((s.setVm vm0).setVm B.U.vm) m args below meth c B.U B.locs B.cells B.slots ∧ (s.setVm vm0).Since B.U.vm B.U.heap.size ∧ T.heap.size ≤ B.U.heap.size ∧ CPost Z EL rm Q' ⟨T.setVm vm₁, locs, cells, slots⟩ aa v B ∧
      Steps p.tables e below (T.setTop (mkF m pc ls st)) (B.U.setTop { mkF m pc ls st with pc := pc + len, stack := v.toList ++ rest }))
    (next : ∀ v D', Q' v D' → W Z EL R own nm bytes ml ret Q D' (k + rm.cells) (n + rm.slots) (pc + len) ls (v.toList ++ rest)) :
    ∃ s₂ o, Steps p.tables e below (T.setTop (mkF m pc ls st)) s₂ ∧ s₂.status = .running ∧ Ended s₂ below o ∧ Res Z EL Q R s o s₂ := by
  obtain ⟨X, hS, hk0, hx, hby, hml, hown, hZ, r1, r2, r3, hN, hH, hc, hl, hE, hNI⟩ := A
  obtain ⟨v, vm₁, ⟨U, L1, c1, n1⟩, hW1, X', hS', hg, ⟨L, D', hL, hH', hq, e1, e2, e3, e4⟩, stp⟩ := hB
  dsimp only [Pt.U, Pt.locs, Pt.cells, Pt.slots] at X' hS' hg hH' e1 e2 e3 e4 stp
  subst e1 e2 e3
  cases hb : EL.1 with
  | false =>
    obtain ⟨s₂, o, q1, r⟩ := next v D' hq p l e s m args below meth c U U.vm U.heap.size (locs ++ L) (cells + rm.cells) (slots + rm.slots)
      ⟨X', hS.trans hS' (Nat.le_trans hk0 hg), Nat.le_refl _, hx, hby, hml, (hS'.1.alike.findClass _ _).trans hown, State.Warmed39.trans (t := s.setVm vm0) hZ hS'.1, r1, r2, r3, Fr.app hN hL, hH', by omega, by omega, hE, fun q => by rw [hb] at q; cases q⟩
    exact ⟨s₂, o, stp.trans q1, r⟩
  | true =>
    have hWU : (s.setVm vm0).WarmedH U.vm := State.WarmedH.trans hW1 (e4 hb)
    have X2 : Stand p l e R (s.setVm vm0) m args below meth c U (locs ++ L) (cells + rm.cells) (slots + rm.slots) :=
      ⟨X.admits, X.cas, X.clock, X.frames, X.room, X.hears, X.method, X.code, X'.here, X'.tail, hWU, X'.limits, X'.bytes, X'.same.setVm vm0⟩
    have hn0 : EL.2 = [] := hE.2 hb
    have hH2 : Hp Z EL D' vm0 U.heap := ⟨hH'.1, by rw [hn0]; exact fun p hp => (by cases hp), fun x hx => ⟨(hH'.2.2.1 x hx).1, fun w => ⟨((hH'.2.2.1 x hx).2 w).1, (by rw [hn0]; rintro ⟨p, hp, -⟩; cases hp), ((hH'.2.2.1 x hx).2 w).2.2⟩⟩, hH'.2.2.2⟩
    obtain ⟨s₂, o, q1, r⟩ := next v D' hq p l e s m args below meth c U vm0 k0 (locs ++ L) (cells + rm.cells) (slots + rm.slots)
      ⟨X2, hS, Nat.le_trans hk0 hg, hx, hby, hml, hown, hZ, r1, r2, r3, Fr.app hN hL, hH2, by omega, by omega, hE, hNI⟩
    exact ⟨s₂, o, stp.trans q1, r⟩
abbrev Rooms (R rm : Room) (Wt cm k n : Nat) : Prop := rm.frames + 1 ≤ R.frames ∧ Wt + (cm + 11) + rm.locals ≤ R.locals ∧ k + rm.cells ≤ R.cells ∧ n + rm.slots ≤ R.slots
abbrev okCls (y : MethodName) : Prop := y.cls ≠ "java/lang/invoke/MethodHandle" ∧ y.cls ≠ "java/lang/invoke/VarHandle"
theorem W.callS {ps : List FieldType} {r : Option FieldType} (Wt : Nat) (rest : List Value) (hd : decode bytes pc = .ok (.invokestatic idx, 3)) (wl : (Cond.methodLink own idx y).before a0 Z = true) (ws : (Cond.static y).before a0 Z = true) (wz : (Cond.initialized y.cls).before a0 Z = true) (wc : (Cond.code y cb cm cr).before a0 Z = true)
    (hC : Con Z EL y cb cm cr rm as D Q') (hy : okCls y) (hps : parseMethodDescriptor y.desc = some ⟨ps, r⟩) (hlen : as.length = ps.length) (hst : as.reverse ++ rest = st) (hls : ls.size = ml) (hW : (rest.map fun v => v.category).sum = Wt) (hr : Rooms R rm Wt cm k n)
    (next : ∀ v D', Q' v D' → W Z EL R own nm bytes ml ret Q D' (k + rm.cells) (n + rm.slots) (pc + 3) ls (v.toList ++ rest)) : W Z EL R own nm bytes ml ret Q D k n pc ls st := by
  intro p l e s m args below meth c T vm0 k0 locs cells slots A
  obtain ⟨X, hS, hk0, hx, hby, hml, hown, hZ, r1, r2, r3, hN, hH, hc, hl, hE, hNI⟩ := id A
  subst hst
  exact W.afterCall A (callSS X hx hown (mvT hZ wl) (mvT hZ ws) (mvT hZ wz) (mvT hZ wc) hy (conBack (Wt := Wt) (len := 3) hC hZ wc wz hE hr.1 hr.2.1) (g := mkF m pc ls (as.reverse ++ rest)) rfl (by rw [hml]; exact hls) (lenOf hps hlen) rfl (by show 2 * 0 + _ ≤ _; omega) (hb hby hd) (fun _ _ => ⟨rfl, hH, by show cells + _ ≤ _; have := hr.2.2.1; omega, by show slots + _ ≤ _; have := hr.2.2.2; omega⟩)) next
theorem W.callI {ps : List FieldType} {r : Option FieldType} {a : Addr} (Wt : Nat) (rest : List Value) (hd : decode bytes pc = .ok (.invokespecial idx, 3)) (hy1 : y.name = "<init>") (wl : (Cond.methodLink own idx y).before a0 Z = true) (wi : (Cond.instanceMethod y).before a0 Z = true) (wz : (Cond.initialized y.cls).before a0 Z = true) (wc : (Cond.code y cb cm none).before a0 Z = true)
    (hC : Con Z EL y cb cm none rm (.ref a :: as) D Q') (hy : okCls y) (hps : parseMethodDescriptor y.desc = some ⟨ps, r⟩) (hlen : as.length = ps.length) (hst : as.reverse ++ .ref a :: rest = st) (hls : ls.size = ml) (hW : (rest.map fun v => v.category).sum = Wt) (hr : Rooms R rm Wt cm k n)
    (next : ∀ v D', Q' v D' → W Z EL R own nm bytes ml ret Q D' (k + rm.cells) (n + rm.slots) (pc + 3) ls (v.toList ++ rest)) : W Z EL R own nm bytes ml ret Q D k n pc ls st := by
  intro p l e s m args below meth c T vm0 k0 locs cells slots A
  obtain ⟨X, hS, hk0, hx, hby, hml, hown, hZ, r1, r2, r3, hN, hH, hc, hl, hE, hNI⟩ := id A
  subst hst
  exact W.afterCall A (X.specialBackS hx hy1 hown (mvT hZ wl) (mvT hZ wi) (mvT hZ wc) hy (conBack (Wt := Wt) (len := 3) hC hZ wc wz hE hr.1 hr.2.1) (g := mkF m pc ls (as.reverse ++ .ref a :: rest)) rfl (by rw [hml]; exact hls) (Steps.refl _) (lenOf hps hlen) rfl (by show 2 * 0 + _ ≤ _; omega) (hb hby hd) (fun _ _ => ⟨rfl, hH, by show cells + _ ≤ _; have := hr.2.2.1; omega, by show slots + _ ≤ _; have := hr.2.2.2; omega⟩)) next
theorem W.callV {z : MethodName} {ps : List FieldType} {r : Option FieldType} {a : Addr} {C C' : String} (Wt : Nat) (rest : List Value) (hd : decode bytes pc = .ok (.invokevirtual idx, 3)) (wl : (Cond.methodLink own idx y).before a0 Z = true) (wdl : (Cond.declares y).before a0 Z = true) (wsy : (Cond.selects C' y y).before a0 Z = true) (wse : (Cond.selects C y z).before a0 Z = true) (wi : (Cond.instanceMethod z).before a0 Z = true) (wz : (Cond.initialized z.cls).before a0 Z = true) (wc : (Cond.code z cb cm cr).before a0 Z = true)
    (hI : ∀ vm h, Hp Z EL D vm h → Exa Z h a C) (hC : Con Z EL z cb cm cr rm (.ref a :: as) D Q') (hy : okCls y) (hps : parseMethodDescriptor y.desc = some ⟨ps, r⟩) (hlen : as.length = ps.length) (hst : as.reverse ++ .ref a :: rest = st) (hls : ls.size = ml) (hW : (rest.map fun v => v.category).sum = Wt) (hr : Rooms R rm Wt cm k n)
    (next : ∀ v D', Q' v D' → W Z EL R own nm bytes ml ret Q D' (k + rm.cells) (n + rm.slots) (pc + 3) ls (v.toList ++ rest)) : W Z EL R own nm bytes ml ret Q D k n pc ls st := by
  intro p l e s m args below meth c T vm0 k0 locs cells slots A
  obtain ⟨X, hS, hk0, hx, hby, hml, hown, hZ, r1, r2, r3, hN, hH, hc, hl, hE, hNI⟩ := id A
  subst hst
  obtain ⟨cq, kq, qa, qb, qc⟩ := isOf (s := s.setVm vm0) hZ rfl (hI _ _ hH)
  exact W.afterCall A (X.virtualBackS hx hown (mvT hZ wl) (mvT hZ wdl) (notFace_of_selects (args := #[]) (mvT hZ wsy)) (mvT hZ wse) (mvT hZ wi) hy (conBack (Wt := Wt) (len := 3) hC hZ wc wz hE hr.1 hr.2.1) qa qc (g := mkF m pc ls (as.reverse ++ .ref a :: rest)) rfl (by rw [hml]; exact hls) (Steps.refl _) (lenOf hps hlen) rfl (by show 2 * 0 + _ ≤ _; omega) (hb hby hd) (fun _ _ => ⟨rfl, hH, by show cells + _ ≤ _; have := hr.2.2.1; omega, by show slots + _ ≤ _; have := hr.2.2.2; omega⟩)) next
theorem W.callVN {z y2 : MethodName} {ps : List FieldType} {r : Option FieldType} {a : Addr} {C C' : String} (Wt : Nat) (rest : List Value) (hd : decode bytes pc = .ok (.invokevirtual idx, 3)) (wl : (Cond.methodLink own idx y).before a0 Z = true) (wdl : (Cond.declares y).before a0 Z = true) (hc2 : y2.cls = y.cls) (wi2 : (Cond.instanceMethod y2).before a0 Z = true) (wsy : (Cond.selects C' y2 y2).before a0 Z = true) (wse : (Cond.selects C y z).before a0 Z = true) (wi : (Cond.instanceMethod z).before a0 Z = true) (wz : (Cond.initialized z.cls).before a0 Z = true) (wc : (Cond.code z cb cm cr).before a0 Z = true)
    (hI : ∀ vm h, Hp Z EL D vm h → Exa Z h a C) (hC : Con Z EL z cb cm cr rm (.ref a :: as) D Q') (hy : okCls y) (hps : parseMethodDescriptor y.desc = some ⟨ps, r⟩) (hlen : as.length = ps.length) (hst : as.reverse ++ .ref a :: rest = st) (hls : ls.size = ml) (hW : (rest.map fun v => v.category).sum = Wt) (hr : Rooms R rm Wt cm k n)
    (next : ∀ v D', Q' v D' → W Z EL R own nm bytes ml ret Q D' (k + rm.cells) (n + rm.slots) (pc + 3) ls (v.toList ++ rest)) : W Z EL R own nm bytes ml ret Q D k n pc ls st := by
  intro p l e s m args below meth c T vm0 k0 locs cells slots A
  obtain ⟨X, hS, hk0, hx, hby, hml, hown, hZ, r1, r2, r3, hN, hH, hc, hl, hE, hNI⟩ := id A
  subst hst
  obtain ⟨cq, kq, qa, qb, qc⟩ := isOf (s := s.setVm vm0) hZ rfl (hI _ _ hH)
  exact W.afterCall A (X.virtualBackS hx hown (mvT hZ wl) (mvT hZ wdl) (notFace_by (args := #[]) hc2 (mvT hZ wi2) (mvT hZ wsy)) (mvT hZ wse) (mvT hZ wi) hy (conBack (Wt := Wt) (len := 3) hC hZ wc wz hE hr.1 hr.2.1) qa qc (g := mkF m pc ls (as.reverse ++ .ref a :: rest)) rfl (by rw [hml]; exact hls) (Steps.refl _) (lenOf hps hlen) rfl (by show 2 * 0 + _ ≤ _; omega) (hb hby hd) (fun _ _ => ⟨rfl, hH, by show cells + _ ≤ _; have := hr.2.2.1; omega, by show slots + _ ≤ _; have := hr.2.2.2; omega⟩)) next
theorem W.callUp {ps : List FieldType} {r : Option FieldType} {a : Addr} {K : String} (Wt : Nat) (rest : List Value) (hd : decode bytes pc = .ok (.invokespecial idx, 3)) (wl : (Cond.methodLink own idx y).before a0 Z = true) (wsm : (Cond.sameMethod y.cls y.cls y.name y.desc).before a0 Z = true) (wi : (Cond.instanceMethod y).before a0 Z = true) (wsu : (Cond.superclass own y.cls).before a0 Z = true) (hy1 : y.name ≠ "<init>") (wz : (Cond.initialized y.cls).before a0 Z = true) (wc : (Cond.code y cb cm cr).before a0 Z = true)
    (hI : ∀ vm h, Hp Z EL D vm h → Ins Z h a K true) (hC : Con Z EL y cb cm cr rm (.ref a :: as) D Q') (hps : parseMethodDescriptor y.desc = some ⟨ps, r⟩) (hlen : as.length = ps.length) (hst : as.reverse ++ .ref a :: rest = st) (hls : ls.size = ml) (hW : (rest.map fun v => v.category).sum = Wt) (hr : Rooms R rm Wt cm k n)
    (next : ∀ v D', Q' v D' → W Z EL R own nm bytes ml ret Q D' (k + rm.cells) (n + rm.slots) (pc + 3) ls (v.toList ++ rest)) : W Z EL R own nm bytes ml ret Q D k n pc ls st := by
  intro p l e s m args below meth c T vm0 k0 locs cells slots A
  obtain ⟨X, hS, hk0, hx, hby, hml, hown, hZ, r1, r2, r3, hN, hH, hc, hl, hE, hNI⟩ := id A
  subst hst
  exact W.afterCall A (superBackS (s := s.setVm vm0) X hx hZ hown wl wsm wi wsu hy1 (conBack (Wt := Wt) (len := 3) hC hZ wc wz hE hr.1 hr.2.1) rfl (hI _ _ hH) (g := mkF m pc ls (as.reverse ++ .ref a :: rest)) rfl (by rw [hml]; exact hls) wc (lenOf hps hlen) rfl (by show 2 * 0 + _ ≤ _; omega) (hb hby hd) (fun _ _ => ⟨rfl, hH, by show cells + _ ≤ _; have := hr.2.2.1; omega, by show slots + _ ≤ _; have := hr.2.2.2; omega⟩)) next
theorem W.callP {ps : List FieldType} {r : Option FieldType} {a : Addr} {K C : String} (Wt : Nat) (rest : List Value) (hd : decode bytes pc = .ok (.invokevirtual idx, 3)) (wl : (Cond.methodLink own idx y).before a0 Z = true) (wi : (Cond.instanceMethod y).before a0 Z = true) (wse : (Cond.selects C y y).before a0 Z = true) (wp : (Cond.privateMethod y).before a0 Z = true) (wz : (Cond.initialized y.cls).before a0 Z = true) (wc : (Cond.code y cb cm cr).before a0 Z = true)
    (hI : ∀ vm h, Hp Z EL D vm h → Exa Z h a K) (hC : Con Z EL y cb cm cr rm (.ref a :: as) D Q') (hy : okCls y) (hps : parseMethodDescriptor y.desc = some ⟨ps, r⟩) (hlen : as.length = ps.length) (hst : as.reverse ++ .ref a :: rest = st) (hls : ls.size = ml) (hW : (rest.map fun v => v.category).sum = Wt) (hr : Rooms R rm Wt cm k n)
    (next : ∀ v D', Q' v D' → W Z EL R own nm bytes ml ret Q D' (k + rm.cells) (n + rm.slots) (pc + 3) ls (v.toList ++ rest)) : W Z EL R own nm bytes ml ret Q D k n pc ls st := by
  intro p l e s m args below meth c T vm0 k0 locs cells slots A
  obtain ⟨X, hS, hk0, hx, hby, hml, hown, hZ, r1, r2, r3, hN, hH, hc, hl, hE, hNI⟩ := id A
  subst hst
  obtain ⟨cell, hcell, hobj⟩ := (hI _ _ hH).cell
  have hinst : (Cond.instanceMethod y).before args (s.setVm vm0) = true := mvT hZ wi
  have hpriv : (s.setVm vm0).PrivateAt y := Cond.privateMethod_at (args := args) (mvP hZ wp)
  obtain ⟨mk, _, hnamed, -⟩ := Cond.instanceMethod_spec hinst
  obtain ⟨kr, hkr, hni⟩ := notFace_of_selects (args := args) (mvT hZ wse) mk hnamed
  have hsel := selects_self_of_private (findClass_of_methodNamed hnamed) hkr hni hpriv hinst hy
  exact W.afterCall A (X.privateBackS hx hown (mvT hZ wl) hinst hsel hpriv (mvT hZ wc) hy (conBack (Wt := Wt) (len := 3) hC hZ wc wz hE hr.1 hr.2.1) (g := mkF m pc ls (as.reverse ++ .ref a :: rest)) rfl (by rw [hml]; exact hls) (Steps.refl _) hcell hobj (lenOf hps hlen) rfl (by show 2 * 0 + _ ≤ _; omega) (hb hby hd) (fun _ _ => ⟨rfl, hH, by show cells + _ ≤ _; have := hr.2.2.1; omega, by show slots + _ ≤ _; have := hr.2.2.2; omega⟩)) next
end Calls
end Jvm.Wk
namespace Jvm.Wk
open Jvm Jvm.ClassFile Sem Op Lib Bundle Jvm.Free Jvm.Stand Jvm.LawKit Jvm.RoadKit
abbrev vi (x : Int32) : Value := .int x
abbrev vr (a : Addr) : Value := .ref a
abbrev uu : Slot := .unset
abbrev ar (ad : String) (ty : FieldType) (vs : List Value) : Desc := .inr (ad, ty, vs)
theorem m0 {α : Type} {x : α} {l : List α} : x ∈ x :: l := List.mem_cons_self ..
theorem mS {α : Type} {x y : α} {l : List α} (h : x ∈ l) : x ∈ y :: l := List.mem_cons_of_mem _ h
theorem m1 {α : Type} {x y1 : α} {l : List α} : x ∈ y1 :: x :: l := mS m0
theorem m2 {α : Type} {x y1 y2 : α} {l : List α} : x ∈ y1 :: y2 :: x :: l := mS m1
theorem m3 {α : Type} {x y1 y2 y3 : α} {l : List α} : x ∈ y1 :: y2 :: y3 :: x :: l := mS m2
theorem m4 {α : Type} {x y1 y2 y3 y4 : α} {l : List α} : x ∈ y1 :: y2 :: y3 :: y4 :: x :: l := mS m3
theorem m5 {α : Type} {x y1 y2 y3 y4 y5 : α} {l : List α} : x ∈ y1 :: y2 :: y3 :: y4 :: y5 :: x :: l := mS m4
theorem m6 {α : Type} {x y1 y2 y3 y4 y5 y6 : α} {l : List α} : x ∈ y1 :: y2 :: y3 :: y4 :: y5 :: y6 :: x :: l := mS m5
theorem m7 {α : Type} {x y1 y2 y3 y4 y5 y6 y7 : α} {l : List α} : x ∈ y1 :: y2 :: y3 :: y4 :: y5 :: y6 :: y7 :: x :: l := mS m6
theorem m8 {α : Type} {x y1 y2 y3 y4 y5 y6 y7 y8 : α} {l : List α} : x ∈ y1 :: y2 :: y3 :: y4 :: y5 :: y6 :: y7 :: y8 :: x :: l := mS m7
theorem m9 {α : Type} {x y1 y2 y3 y4 y5 y6 y7 y8 y9 : α} {l : List α} : x ∈ y1 :: y2 :: y3 :: y4 :: y5 :: y6 :: y7 :: y8 :: y9 :: x :: l := mS m8
theorem m10 {α : Type} {x y1 y2 y3 y4 y5 y6 y7 y8 y9 y10 : α} {l : List α} : x ∈ y1 :: y2 :: y3 :: y4 :: y5 :: y6 :: y7 :: y8 :: y9 :: y10 :: x :: l := mS m9
theorem m11 {α : Type} {x y1 y2 y3 y4 y5 y6 y7 y8 y9 y10 y11 : α} {l : List α} : x ∈ y1 :: y2 :: y3 :: y4 :: y5 :: y6 :: y7 :: y8 :: y9 :: y10 :: y11 :: x :: l := mS m10
theorem m12 {α : Type} {x y1 y2 y3 y4 y5 y6 y7 y8 y9 y10 y11 y12 : α} {l : List α} : x ∈ y1 :: y2 :: y3 :: y4 :: y5 :: y6 :: y7 :: y8 :: y9 :: y10 :: y11 :: y12 :: x :: l := mS m11
theorem m13 {α : Type} {x y1 y2 y3 y4 y5 y6 y7 y8 y9 y10 y11 y12 y13 : α} {l : List α} : x ∈ y1 :: y2 :: y3 :: y4 :: y5 :: y6 :: y7 :: y8 :: y9 :: y10 :: y11 :: y12 :: y13 :: x :: l := mS m12
theorem m14 {α : Type} {x y1 y2 y3 y4 y5 y6 y7 y8 y9 y10 y11 y12 y13 y14 : α} {l : List α} : x ∈ y1 :: y2 :: y3 :: y4 :: y5 :: y6 :: y7 :: y8 :: y9 :: y10 :: y11 :: y12 :: y13 :: y14 :: x :: l := mS m13
theorem m15 {α : Type} {x y1 y2 y3 y4 y5 y6 y7 y8 y9 y10 y11 y12 y13 y14 y15 : α} {l : List α} : x ∈ y1 :: y2 :: y3 :: y4 :: y5 :: y6 :: y7 :: y8 :: y9 :: y10 :: y11 :: y12 :: y13 :: y14 :: y15 :: x :: l := mS m14
theorem i_lt {x y : Int32} (h : x < y) : x.toInt < y.toInt := Int32.lt_iff_toInt_lt.mp h
theorem i_nlt {x y : Int32} (h : ¬ x < y) : y.toInt ≤ x.toInt := by rw [Int32.lt_iff_toInt_lt] at h; omega
theorem i_eq {x y : Int32} (h : x = y) : x.toInt = y.toInt := by rw [h]
theorem i_ne {x y : Int32} (h : ¬ x = y) : x.toInt ≠ y.toInt := fun e => h (Int32.toInt_inj.mp e)
theorem eqI {x y : Int32} (h : x.toInt = y.toInt) : x = y := Int32.toInt_inj.mp h
section C
variable {x y : Int32}
theorem y_eq (h : x.toInt = y.toInt) : Cd .eq x y := eqI h
theorem n_eq (h : x.toInt ≠ y.toInt) : ¬ Cd .eq x y := fun e => h (i_eq e)
theorem y_ne (h : x.toInt ≠ y.toInt) : Cd .ne x y := fun e => h (i_eq e)
theorem n_ne (h : x.toInt = y.toInt) : ¬ Cd .ne x y := fun e => e (eqI h)
theorem y_lt (h : x.toInt < y.toInt) : Cd .lt x y := Int32.lt_iff_toInt_lt.mpr h
theorem n_lt (h : y.toInt ≤ x.toInt) : ¬ Cd .lt x y := fun e => by have := i_lt e; omega
theorem y_ge (h : y.toInt ≤ x.toInt) : Cd .ge x y := fun e => by have := i_lt e; omega
theorem n_ge (h : x.toInt < y.toInt) : ¬ Cd .ge x y := fun e => e (Int32.lt_iff_toInt_lt.mpr h)
theorem y_gt (h : y.toInt < x.toInt) : Cd .gt x y := Int32.lt_iff_toInt_lt.mpr h
theorem n_gt (h : x.toInt ≤ y.toInt) : ¬ Cd .gt x y := fun e => by have := i_lt e; omega
theorem y_le (h : x.toInt ≤ y.toInt) : Cd .le x y := fun e => by have := i_lt e; omega
theorem t_eq (h : Cd .eq x y) : x.toInt = y.toInt := i_eq h
theorem f_eq (h : ¬ Cd .eq x y) : x.toInt ≠ y.toInt := i_ne h
theorem t_lt (h : Cd .lt x y) : x.toInt < y.toInt := i_lt h
theorem f_lt (h : ¬ Cd .lt x y) : y.toInt ≤ x.toInt := i_nlt h
theorem t_ge (h : Cd .ge x y) : y.toInt ≤ x.toInt := i_nlt h
theorem f_ge (h : ¬ Cd .ge x y) : x.toInt < y.toInt := i_lt (Classical.not_not.mp h)
theorem t_gt (h : Cd .gt x y) : y.toInt < x.toInt := i_lt h
theorem f_gt (h : ¬ Cd .gt x y) : x.toInt ≤ y.toInt := i_nlt h
theorem t_le (h : Cd .le x y) : x.toInt ≤ y.toInt := i_nlt h
theorem f_le (h : ¬ Cd .le x y) : y.toInt < x.toInt := i_lt (Classical.not_not.mp h)
end C
theorem a_add (x y : Int32) : ((x + y).toInt - (x.toInt + y.toInt)) % 4294967296 = 0 ∧ -2147483648 ≤ (x + y).toInt ∧ (x + y).toInt < 2147483648 := ⟨c_iadd x y, rng32 _⟩
theorem a_sub (x y : Int32) : ((x - y).toInt - (x.toInt - y.toInt)) % 4294967296 = 0 ∧ -2147483648 ≤ (x - y).toInt ∧ (x - y).toInt < 2147483648 := ⟨c_isub x y, rng32 _⟩
theorem a_and (x m : Int32) (k : Nat) (M : Int) (hk : k ≤ 31) (hm : m.toBitVec.toNat = 2 ^ k - 1) (hM : ((2 ^ k : Nat) : Int) = M) : (x &&& m).toInt = x.toInt % M := by rw [← hM]; exact c_mask x m k hk hm
theorem a_shr (x q : Int32) (k : Nat) (M : Int) (hk : q.toBitVec.toNat % 32 = k) (hM : ((2 ^ k : Nat) : Int) = M) : (x >>> (q &&& 31)).toInt = x.toInt / M := by rw [← hM]; exact c_ishr x q k hk
theorem a_ushr (x q : Int32) (k : Nat) (M : Int) (hk : q.toBitVec.toNat % 32 = k) (h0 : 0 < k) (hM : ((2 ^ k : Nat) : Int) = M) : (XT.ushr x q).toInt = (x.toInt % 4294967296) / M := by rw [← hM]; exact c_iushr x q k hk h0
theorem a_i2c (x : Int32) : (x.toUInt32.toUInt16.toUInt32.toInt32.toInt - x.toInt) % 65536 = 0 ∧ 0 ≤ x.toUInt32.toUInt16.toUInt32.toInt32.toInt ∧ x.toUInt32.toUInt16.toUInt32.toInt32.toInt < 65536 := c_i2c x
theorem a_i2b (x : Int32) : (x.toInt8.toInt32.toInt - x.toInt) % 256 = 0 ∧ -128 ≤ x.toInt8.toInt32.toInt ∧ x.toInt8.toInt32.toInt < 128 := c_i2b x
theorem z_i2c {x : Int32} (h : 0 ≤ x.toInt ∧ x.toInt ≤ 65535) : x.toUInt32.toUInt16.toUInt32.toInt32 = x := eqI (by have := a_i2c x; omega)
theorem z_i2b {x : Int32} (h : -128 ≤ x.toInt ∧ x.toInt ≤ 127) : x.toInt8.toInt32 = x := eqI (by have := a_i2b x; omega)
theorem z_b255 {x : Int32} (h : 0 ≤ x.toInt ∧ x.toInt ≤ 255) : x.toInt8.toInt32 &&& 255 = x := eqI (by have := a_i2b x; have := a_and x.toInt8.toInt32 255 8 256 (by decide) (by decide) (by decide); omega)
theorem z_and {x m : Int32} (k : Nat) (M : Int) (hk : k ≤ 31) (hm : m.toBitVec.toNat = 2 ^ k - 1) (hM : ((2 ^ k : Nat) : Int) = M) (h : 0 ≤ x.toInt ∧ x.toInt < M) : x &&& m = x := eqI (by have := a_and x m k M hk hm hM; rw [this]; exact Int.emod_eq_of_lt h.1 h.2)
theorem z_narC {x : Int32} (h : 0 ≤ x.toInt ∧ x.toInt ≤ 65535) : nar .char x = x := z_i2c h
theorem z_narB {x : Int32} (h : -128 ≤ x.toInt ∧ x.toInt ≤ 127) : nar .byte x = x := z_i2b h
theorem nw_char {x : Int32} (h : 0 ≤ x.toInt ∧ x.toInt ≤ 65535) : narrow .char (.int x) = .int x := by have e := z_i2c h; have := XT.narrow_c x; rw [e] at this; exact this
theorem nw_byte {x : Int32} (h : -128 ≤ x.toInt ∧ x.toInt ≤ 127) : narrow .byte (.int x) = .int x := by have e := z_i2b h; have := XT.narrow_b x; rw [e] at this; exact this
theorem nw_bool {x : Int32} (h : 0 ≤ x.toInt ∧ x.toInt ≤ 1) : narrow .boolean (.int x) = .int x := by
  have : x = 0 ∨ x = 1 := by
    rcases (by omega : x.toInt = 0 ∨ x.toInt = 1) with q | q
    · exact Or.inl (eqI q)
    · exact Or.inr (eqI q)
  rcases this with rfl | rfl <;> rfl
theorem ft_byte {x : Int32} (h : -128 ≤ x.toInt ∧ x.toInt ≤ 127) : fits .byte (.int x) = true := by have := fits_nar_byte x; rw [z_i2b h] at this; exact this
end Jvm.Wk
namespace Jvm.Wk
open Jvm Jvm.ClassFile Sem Op Lib Bundle Jvm.Free Jvm.Stand Jvm.LawKit Jvm.RoadKit
section Walk
variable {Z : State} {EL : Bool × List (String × Nat)} {R : Room} {own nm : String} {bytes : ByteArray} {ml : Nat} {ret : Option FieldType} {Q : Option Value → List Ent → Prop} {D D' : List Ent} {k n pc : Nat} {ls ls' : Array Slot} {st : List Value} {a0 : Array Value}
theorem Hp.ne {i j : Nat} {x y : Ent} {vm : Vm} {h : Heap} (H : Hp Z EL D vm h) (hij : i ≠ j) (hi : D[i]? = some x) (hj : D[j]? = some y) (w : x.2.1 = true ∨ y.2.1 = true) : x.1 ≠ y.1 := by
  have P := H.2.2.2
  obtain ⟨i1, rfl⟩ := List.getElem?_eq_some_iff.mp hi
  obtain ⟨j1, rfl⟩ := List.getElem?_eq_some_iff.mp hj
  rw [List.pairwise_iff_getElem] at P
  rcases Nat.lt_or_gt_of_ne hij with q | q
  · exact P i j i1 j1 q w
  · exact (P j i j1 i1 q w.symm).symm
theorem wS_of (h1 : (Cond.initialized "java/lang/String").before a0 Z = true) (h2 : (Cond.instantiable "java/lang/String" 4).before a0 Z = true) (h3 : (Cond.arrayClass .byte).before a0 Z = true) (h4 : (Cond.laysFinal "java/lang/String" "java/lang/String" "value" "[B").before a0 Z = true) (h5 : (Cond.laysFinal "java/lang/String" "java/lang/String" "coder" "B").before a0 Z = true) (h6 : (Cond.soleField "java/lang/String" "value").before a0 Z = true) (h7 : (Cond.soleField "java/lang/String" "coder").before a0 Z = true) :
    ∀ a ∈ Bundle.stringAtoms, a.before a0 Z = true := fun a ha => by
  simp only [Bundle.stringAtoms, Bundle.sN, List.mem_cons, List.not_mem_nil, or_false] at ha
  rcases ha with rfl | rfl | rfl | rfl | rfl | rfl | rfl <;> assumption
theorem W.iaddK {x y : Int32} (z : Int32) (hd : decode bytes pc = .ok (.iadd, 1)) (hz : x + y = z) (next : W Z EL R own nm bytes ml ret Q D k n (pc + 1) ls (.int z :: st)) : W Z EL R own nm bytes ml ret Q D k n pc ls (.int y :: .int x :: st) := W.iadd hd (hz ▸ next)
theorem W.isubK {x y : Int32} (z : Int32) (hd : decode bytes pc = .ok (.isub, 1)) (hz : x - y = z) (next : W Z EL R own nm bytes ml ret Q D k n (pc + 1) ls (.int z :: st)) : W Z EL R own nm bytes ml ret Q D k n pc ls (.int y :: .int x :: st) := W.isub hd (hz ▸ next)
theorem W.iandK {x y : Int32} (z : Int32) (hd : decode bytes pc = .ok (.iand, 1)) (hz : x &&& y = z) (next : W Z EL R own nm bytes ml ret Q D k n (pc + 1) ls (.int z :: st)) : W Z EL R own nm bytes ml ret Q D k n pc ls (.int y :: .int x :: st) := W.iand hd (hz ▸ next)
theorem W.ishlK {x y : Int32} (z : Int32) (hd : decode bytes pc = .ok (.ishl, 1)) (hz : x <<< (y &&& 31) = z) (next : W Z EL R own nm bytes ml ret Q D k n (pc + 1) ls (.int z :: st)) : W Z EL R own nm bytes ml ret Q D k n pc ls (.int y :: .int x :: st) := W.ishl hd (hz ▸ next)
theorem W.ishrK {x y : Int32} (z : Int32) (hd : decode bytes pc = .ok (.ishr, 1)) (hz : x >>> (y &&& 31) = z) (next : W Z EL R own nm bytes ml ret Q D k n (pc + 1) ls (.int z :: st)) : W Z EL R own nm bytes ml ret Q D k n pc ls (.int y :: .int x :: st) := W.ishr hd (hz ▸ next)
theorem W.i2cK {x : Int32} (z : Int32) (hd : decode bytes pc = .ok (.i2c, 1)) (hz : x.toUInt32.toUInt16.toUInt32.toInt32 = z) (next : W Z EL R own nm bytes ml ret Q D k n (pc + 1) ls (.int z :: st)) : W Z EL R own nm bytes ml ret Q D k n pc ls (.int x :: st) := W.i2c hd (hz ▸ next)
theorem W.iincK {i : Nat} {cst : Int} {x : Int32} (v r : Int32) (hd : decode bytes pc = .ok (.iinc i cst, 3)) (hv : Int32.ofInt cst = v) (hl : ls[i]? = some (.val (.int x))) (hr : x + v = r) (hl' : storeLocals ls i (.int r) = some ls') (next : W Z EL R own nm bytes ml ret Q D k n (pc + 3) ls' st) : W Z EL R own nm bytes ml ret Q D k n pc ls st :=
  W.iinc v hd hv hl (hr ▸ hl') next
end Walk
def sel (j : Int32) (l : List Int32) : Int32 := l.getD j.toInt.toNat 0
theorem W.caloadS {Z : State} {EL : Bool × List (String × Nat)} {R : Room} {own nm : String} {bytes : ByteArray} {ml : Nat} {ret : Option FieldType} {Q : Option Value → List Ent → Prop} {D : List Ent} {k n pc : Nat} {ls : Array Slot} {st : List Value} {a : Addr} {b : Bool} {ad : String} {l : List Int32} {j j' : Int32} (hd : decode bytes pc = .ok (.caload, 1)) (hm : (a, b, .inr (ad, .char, l.map Value.int)) ∈ D) (hj : j.toInt = j'.toInt) (hb : 0 ≤ j'.toInt ∧ j'.toInt < l.length)
    (next : W Z EL R own nm bytes ml ret Q D k n (pc + 1) ls (.int (sel j' l) :: st)) : W Z EL R own nm bytes ml ret Q D k n pc ls (.int j :: .ref a :: st) :=
  W.caload j'.toInt.toNat hd hm (Idx.of_toInt (by omega)) (by
    have h : j'.toInt.toNat < l.length := by omega
    rw [List.getElem?_map, List.getElem?_eq_getElem h]; unfold sel; rw [List.getD_eq_getElem?_getD, List.getElem?_eq_getElem h]; rfl) next
theorem z_0add (x : Int32) : 0 + x = x := by simp
theorem z_sub0 (x : Int32) : x - 0 = x := by simp
theorem z_shl0 (x : Int32) : x <<< ((0 : Int32) &&& 31) = x := by
  apply Int32.toBitVec_inj.mp; simp
theorem z_shr0 (x : Int32) : x >>> ((0 : Int32) &&& 31) = x := eqI (by have := a_shr x 0 0 1 (by decide) (by decide); omega)
section L
variable {x y : Int64}
end L
def si (Z : State) (C n d : String) : Int32 := match (Term.static C n d).eval #[] Z none [] Z with | some (.int x) => x | _ => 0
def sv (Z : State) (C n d : String) : Value := match (Term.static C n d).eval #[] Z none [] Z with | some v => v | none => .null
theorem eval_static {Z : State} {a b : Array Value} {C n d : String} : (Term.static C n d).eval a Z none [] Z = (Term.static C n d).eval b Z none [] Z := rfl
theorem si_of {Z : State} {C n d : String} {x : Int32} {a : Array Value} (h : (Term.static C n d).eval a Z none [] Z = some (.int x)) : si Z C n d = x := by
  unfold si; rw [eval_static (b := a), h]
theorem sv_of {Z : State} {C n d : String} {x : Value} {a : Array Value} (h : (Term.static C n d).eval a Z none [] Z = some x) : sv Z C n d = x := by
  unfold sv; rw [eval_static (b := a), h]
end Jvm.Wk
namespace Jvm.Wk
open Jvm Jvm.ClassFile Sem Op Lib Bundle Jvm.Free Jvm.Stand Jvm.LawKit Jvm.RoadKit
section Natives
variable {Z : State} {EL : Bool × List (String × Nat)} {R : Room} {own nm : String} {bytes : ByteArray} {ml : Nat} {ret : Option FieldType} {Q : Option Value → List Ent → Prop} {D D' : List Ent} {k n pc : Nat} {ls ls' : Array Slot} {st : List Value} {a0 : Array Value} {idx : Nat}
theorem range_get (vs : List Value) (s1 n1 : Nat) (dv : Value) (h : s1 + n1 ≤ vs.length) : (vs.drop s1).take n1 = (List.range n1).map fun i => vs.getD (s1 + i) dv := by
  apply List.ext_getElem?
  intro i
  by_cases hi : i < n1
  · rw [List.getElem?_take, if_pos hi, List.getElem?_drop, List.getElem?_map, List.getElem?_range hi]
    have : s1 + i < vs.length := by omega
    simp [this]
  · rw [List.getElem?_take, if_neg hi, List.getElem?_map, List.getElem?_eq_none (by simpa using Nat.le_of_not_lt hi)]; rfl
theorem W.cpy {a b : Addr} {wa : Bool} {ada adb : String} {ty : FieldType} {vs vd : List Value} {sp dp nn : Int32} (i s1 d1 n1 Wt : Nat) (hd : decode bytes pc = .ok (.invokestatic idx, 3)) (w1 : (Cond.methodLink own idx Jvm.Stand.acN).before a0 Z = true) (w2 : (Cond.native Jvm.Stand.acN).before a0 Z = true) (w3 : (Cond.static Jvm.Stand.acN).before a0 Z = true) (w4 : (Cond.initialized "java/lang/System").before a0 Z = true)
    (hm : (a, wa, .inr (ada, ty, vs)) ∈ D) (hi : D[i]? = some (b, true, .inr (adb, ty, vd))) (hty : refKind ty = false) (hs : Idx sp s1) (hdp : Idx dp d1) (hnn : Idx nn n1) (h45 : s1 + n1 ≤ vs.length ∧ d1 + n1 ≤ vd.length) (hls : ls.size = ml) (hW : (st.map fun v => v.category).sum = Wt) (hr : 1 ≤ R.frames ∧ Wt + (nativeFrameWords "java/lang/System" "arraycopy" 5 + 11) ≤ R.locals)
    (hD : D.set i (b, true, .inr (adb, ty, vd.take d1 ++ (vs.drop s1).take n1 ++ vd.drop (d1 + n1))) = D') (next : W Z EL R own nm bytes ml ret Q D' k n (pc + 3) ls st) : W Z EL R own nm bytes ml ret Q D k n pc ls (.int nn :: .int dp :: .ref b :: .int sp :: .ref a :: st) := by
  intro p l e s m args below meth c T vm0 k0 locs cells slots A
  obtain ⟨X, hS, hk0, hx, hby, hml, hown, hZ, r1, r2, r3, hN, hH, hc, hl, hE, hNI⟩ := A
  subst hD
  have SA := (hH.2.2.1 _ hm).1
  obtain ⟨SB, g⟩ := hH.2.2.1 _ (List.mem_of_getElem? hi)
  obtain ⟨g1, g2, g3⟩ := g rfl
  obtain ⟨ka, FA⟩ := Sat.arv .null SA
  obtain ⟨kb, FB⟩ := Sat.arv .null SB
  have va : (Nat.toInt32 vs.length).toNatClampNeg = vs.length := by obtain ⟨_, _, _, q, _⟩ := SA; exact (Idx.of_nat q).2
  have vb : (Nat.toInt32 vd.length).toNatClampNeg = vd.length := by obtain ⟨_, _, _, q, _⟩ := SB; exact (Idx.of_nat q).2
  obtain ⟨T', h', L, X', e', hN', K, F', stp⟩ := cpA X hx hZ hown w1 w2 w3 w4 rfl FA FB (Or.inl ⟨rfl, hty⟩) hs.1 hdp.1 hnn.1 (by rw [hs.2, hnn.2, va]; exact h45.1) (by rw [hdp.2, hnn.2, vb]; exact h45.2) rfl (by rw [hdp.2, hnn.2]; exact h45.2) hN g1
    (g := mkF m pc ls (.int nn :: .int dp :: .ref b :: .int sp :: .ref a :: st)) rfl (by rw [hml]; exact hls) rfl (hb hby hd) hr.1 (W := Wt) (by show 2 * 0 + _ ≤ _; omega) hr.2
  rw [hs.2, hdp.2, hnn.2, ← range_get vs s1 n1 .null h45.1] at F'
  have S' : Sat Z h' b (.inr (adb, ty, vd.take d1 ++ (vs.drop s1).take n1 ++ vd.drop (d1 + n1))) := Sat.of_arv F' (by rw [vb]; simp; omega) fun q => by
    obtain ⟨_, _, _, _, _, r⟩ := SB; exact (r q).keep K
  have H' := hH.keepSet hi K S' trivial
  obtain ⟨s₂, o, q1, r⟩ := next p l e s m args below meth c T' vm0 k0 L cells slots ⟨X', hS, by rw [e']; exact Nat.le_trans hk0 K.1, hx, hby, hml, hown, hZ, r1, r2, r3, hN', by rw [e']; exact H', hc, hl, hE, hNI⟩
  exact ⟨s₂, o, stp _ q1, r⟩
theorem W.clone {a : Addr} {wa : Bool} {ad : String} {ty : FieldType} {vs : List Value} (Wt N : Nat) (hd : decode bytes pc = .ok (.invokevirtual idx, 3))
    (w1 : (Cond.methodLink own idx ⟨ad, "clone", "()Ljava/lang/Object;"⟩).before a0 Z = true) (w2 : (Cond.sameMethod ad "java/lang/Object" "clone" "()Ljava/lang/Object;").before a0 Z = true) (w3 : (Cond.native ⟨"java/lang/Object", "clone", "()Ljava/lang/Object;"⟩).before a0 Z = true)
    (w4 : (Cond.instanceMethod ⟨"java/lang/Object", "clone", "()Ljava/lang/Object;"⟩).before a0 Z = true) (w5 : (Cond.selects ad ⟨ad, "clone", "()Ljava/lang/Object;"⟩ ⟨"java/lang/Object", "clone", "()Ljava/lang/Object;"⟩).before a0 Z = true) (w6 : (Cond.castable ad "java/lang/Cloneable").before a0 Z = true)
    (hm : (a, wa, .inr (ad, ty, vs)) ∈ D) (hne : ad ≠ "") (hN : vs.length = N) (hls : ls.size = ml) (hW : (st.map fun v => v.category).sum = Wt) (hr : (1 ≤ R.frames ∧ Wt + 14 ≤ R.locals) ∧ k + 1 ≤ R.cells ∧ n + N ≤ R.slots)
    (next : ∀ b, W Z EL R own nm bytes ml ret Q ((b, true, .inr (ad, ty, vs)) :: D) (k + 1) (n + N) (pc + 3) ls (.ref b :: st)) : W Z EL R own nm bytes ml ret Q D k n pc ls (.ref a :: st) := by
  intro p l e s m args below meth c T vm0 k0 locs cells slots A
  obtain ⟨X, hS, hk0, hx, hby, hml, hown, hZ, r1, r2, r3, hN', hH, hc, hl, hE, hNI⟩ := A
  have SA := (hH.2.2.1 _ hm).1
  obtain ⟨ka, FA⟩ := Sat.arv .null SA
  have va : (Nat.toInt32 vs.length).toNatClampNeg = vs.length := by obtain ⟨_, _, _, q, _⟩ := SA; exact (Idx.of_nat q).2
  have EA : Exa Z T.heap a ad := by obtain ⟨_, _, _, _, _, r⟩ := SA; exact r hne
  obtain ⟨T', h', X', e', E, F', E', stp⟩ := cloneH X hx hZ hown w1 w2 w3 w4 w5 w6 rfl FA.arh EA (g := mkF m pc ls (.ref a :: st)) rfl (by rw [hml]; exact hls) rfl (hb hby hd) hr.1.1 (W := Wt) (cap := N) (by show 2 * 0 + _ ≤ _; omega) hr.1.2 (by rw [va]; omega) (by omega) (by omega)
  have S' : Sat Z h' T.heap.size (.inr (ad, ty, vs)) := Sat.of_arv (z := Nat.toInt32 vs.length) F' va fun _ => E'
  have H' := hH.new E S' trivial
  obtain ⟨s₂, o, q1, r⟩ := next T.heap.size p l e s m args below meth c T' vm0 k0 locs (cells + 1) (slots + N) ⟨X', hS, by rw [e']; exact Nat.le_trans hk0 E.1, hx, hby, hml, hown, hZ, r1, r2, r3, hN', by rw [e']; exact H', by omega, by omega, hE, hNI⟩
  exact ⟨s₂, o, stp _ q1, r⟩
end Natives
end Jvm.Wk
namespace Jvm.Wk
open Jvm Jvm.ClassFile Sem Op Lib Bundle Jvm.Free Jvm.Stand Jvm.LawKit Jvm.RoadKit
section Start
variable {s : State} {args : Array Value} {C n d C' n' d' K : String}
theorem sf_int (hi : (Cond.initializedFor C n d).before args s = true) (h : (Cond.isInt (.static C n d)).before args s = true) : Sta s s.heap C n d (.int (si s C n d)) := by
  obtain ⟨x, e⟩ := is_v (Cond.before_iff.mp h)
  rw [si_of e]; exact Sta.start e (Or.inl hi)
theorem sf_nz (h : (Cond.isInt (.static C n d)).before args s = true) (hz : (Cond.not (.eq (.static C n d) (.int 0))).before args s = true) : (si s C n d).toInt ≠ 0 := by
  obtain ⟨x, e⟩ := is_v (Cond.before_iff.mp h)
  rw [si_of e]
  intro q
  have : x = 0 := eqI q
  subst this
  have h2 := not_v (Cond.before_iff.mp hz)
  rw [eq_i e (Term.int_eval 0) rfl] at h2
  cases h2
theorem sf_isref (h : (Cond.isRef (.static C n d)).before args s = true) : (sv s C n d).isRef = true := by
  obtain ⟨x, e, r⟩ := isR_v (Cond.before_iff.mp h)
  rw [sv_of e]; exact r
theorem sf_ref (hi : (Cond.initializedFor C n d).before args s = true) (h : (Cond.isRef (.static C n d)).before args s = true) : Sta s s.heap C n d (sv s C n d) := by
  obtain ⟨x, e, r⟩ := isR_v (Cond.before_iff.mp h)
  rw [sv_of e]; exact Sta.start e (Or.inl hi)
theorem sf_ref2 (hz : (Cond.initialized C).before args s = true) (hl : (Cond.laysStatic C n d).before args s = true) (h : (Cond.isRef (.static C n d)).before args s = true) : Sta s s.heap C n d (sv s C n d) := by
  obtain ⟨x, e, r⟩ := isR_v (Cond.before_iff.mp h)
  rw [sv_of e]; exact Sta.start e (Or.inr ⟨hz, hl⟩)
end Start
theorem CHv.nil {Z : State} {vm : Vm} {h : Heap} : CHv Z [] vm h := fun p hp => by cases hp
theorem Hp.start {Z : State} {EL : Bool × List (String × Nat)} (H : CHv Z EL.2 Z.vm Z.heap) : Hp Z EL [] Z.vm Z.heap := ⟨⟨Nat.le_refl _, fun _ _ q => q⟩, H, fun x hx => (by cases hx), List.Pairwise.nil⟩
end Jvm.Wk
namespace Jvm.Wk
open Jvm Jvm.ClassFile Sem Op Lib Bundle Jvm.Free Jvm.Stand Jvm.LawKit Jvm.RoadKit
theorem Con.mono {Z : State} {EL : Bool × List (String × Nat)} {y : MethodName} {bytes : ByteArray} {maxL : Nat} {ret : Option FieldType} {rm : Room} {as : List Value} {D : List Ent} {Q Q' : Option Value → List Ent → Prop} (h : Con Z EL y bytes maxL ret rm as D Q) (q : ∀ v D', Q v D' → Q' v D') : Con Z EL y bytes maxL ret rm as D Q' := by
  intro hE l ws
  refine MetFree.mono (h hE l ws) (fun _ _ p => p) (fun _ _ _ _ _ p => p) ?_
  intro a s o t _ r
  obtain ⟨v, L, h1, h2, ⟨D', h3, h4⟩, h5⟩ := r
  exact ⟨v, L, h1, h2, ⟨D', h3, q v D' h4⟩, h5⟩
end Jvm.Wk
namespace Jvm.Wk
open Jvm Jvm.ClassFile Sem Op Lib Bundle Jvm.Free Jvm.Stand Jvm.LawKit Jvm.RoadKit
end Jvm.Wk
namespace Jvm.Wk
open Jvm Jvm.ClassFile Sem Op Lib Bundle Jvm.Free Jvm.Stand Jvm.LawKit Jvm.RoadKit
def ta (Z : State) (t : Term) : Addr := match t.eval #[] Z none [] Z with | some (.ref a) => a | _ => 0
section Old
variable {s : State} {args : Array Value} {t : Term} {O f d K : String} {EL : Bool × List (String × Nat)} {D : List Ent} {a : Addr} {de : Desc}
theorem ta_of (e : t.eval #[] s none [] s = t.eval args s none [] s) (h : t.eval args s none [] s = some (.ref a)) : ta s t = a := by
  unfold ta; rw [e, h]
theorem t_sta {C n dd : String} (hi : (Cond.initializedFor C n dd).before args s = true ∨ ((Cond.initialized C).before args s = true ∧ (Cond.laysStatic C n dd).before args s = true)) (h : ∃ x, (Term.static C n dd).eval args s none [] s = some (.ref x)) : Sta s s.heap C n dd (.ref (ta s (.static C n dd))) := by
  obtain ⟨x, hx⟩ := h
  rw [ta_of (args := args) (t := .static C n dd) rfl hx]; exact Sta.start hx hi
end Old
end Jvm.Wk
namespace Jvm.Wk
end Jvm.Wk
namespace Jvm.Wk
open Jvm Jvm.ClassFile Sem Op Lib Bundle Jvm.Free Jvm.Stand Jvm.LawKit Jvm.RoadKit
end Jvm.Wk
namespace Jvm.Wk
open Jvm Jvm.ClassFile Sem Op Lib Bundle Jvm.Free Jvm.Stand Jvm.LawKit Jvm.RoadKit
end Jvm.Wk
namespace Jvm.Wk
open Jvm Jvm.ClassFile Sem Op Lib Bundle Jvm.Free Jvm.Stand Jvm.LawKit Jvm.RoadKit
end Jvm.Wk
namespace Jvm.Wk
open Jvm Jvm.ClassFile Sem Op Lib Bundle Jvm.Free Jvm.Stand Jvm.LawKit Jvm.RoadKit
section Lists
variable {Z : State} {EL : Bool × List (String × Nat)} {R : Room} {own nm : String} {bytes : ByteArray} {ml : Nat} {ret : Option FieldType} {Q : Option Value → List Ent → Prop} {D D' : List Ent} {k n pc : Nat} {ls ls' : Array Slot} {st : List Value} {a0 : Array Value}
theorem W.alenS {a : Addr} {b : Bool} {ad : String} {ty : FieldType} {l : List Int32} {z : Int32} (hd : decode bytes pc = .ok (.arraylength, 1)) (hm : (a, b, .inr (ad, ty, l.map Value.int)) ∈ D) (hz : (l.length : Int) = z.toInt)
    (next : W Z EL R own nm bytes ml ret Q D k n (pc + 1) ls (.int z :: st)) : W Z EL R own nm bytes ml ret Q D k n pc ls (.ref a :: st) :=
  W.alen z hd hm (by
    have := rng32 z
    rw [List.length_map]
    exact eqI (by rw [len_toInt (by omega)]; exact hz)) next
theorem W.baloadS {a : Addr} {b : Bool} {ad : String} {l : List Int32} {j j' : Int32} (hd : decode bytes pc = .ok (.baload, 1)) (hm : (a, b, .inr (ad, .byte, l.map Value.int)) ∈ D) (hj : j.toInt = j'.toInt) (hb : 0 ≤ j'.toInt ∧ j'.toInt < l.length)
    (next : W Z EL R own nm bytes ml ret Q D k n (pc + 1) ls (.int (sel j' l) :: st)) : W Z EL R own nm bytes ml ret Q D k n pc ls (.int j :: .ref a :: st) :=
  W.baload j'.toInt.toNat hd hm (Idx.of_toInt (by omega)) (by
    have h : j'.toInt.toNat < l.length := by omega
    rw [List.getElem?_map, List.getElem?_eq_getElem h]; unfold sel; rw [List.getD_eq_getElem?_getD, List.getElem?_eq_getElem h]; rfl) next
theorem W.bastoreS {a : Addr} {ad : String} {l : List Int32} {z x x' : Int32} (i : Nat) (hd : decode bytes pc = .ok (.bastore, 1)) (hi : D[i]? = some (a, true, .inr (ad, .byte, l.map Value.int))) (hz : 0 ≤ z.toInt ∧ z.toInt < l.length) (hx' : nar .byte x = x')
    (hD : D.set i (a, true, .inr (ad, .byte, (l.set z.toInt.toNat x').map Value.int)) = D') (next : W Z EL R own nm bytes ml ret Q D' k n (pc + 1) ls st) : W Z EL R own nm bytes ml ret Q D k n pc ls (.int x :: .int z :: .ref a :: st) :=
  W.bastore i z.toInt.toNat hd hi (Idx.of_toInt (by omega)) (by rw [List.length_map]; omega) hx' (by rw [← hD, List.map_set]) next
theorem W.newarrB {z : Int32} (B : Nat) (hd : decode bytes pc = .ok (.newarray .byte, 2)) (w : (Cond.arrayClass .byte).before a0 Z = true) (hz : 0 ≤ z.toInt ∧ z.toInt ≤ B) (hb8 : B * 8 ≤ 536870912) (hr : k + 1 ≤ R.cells ∧ n + B ≤ R.slots)
    (next : ∀ a, W Z EL R own nm bytes ml ret Q ((a, true, .inr ("[B", .byte, (List.replicate z.toInt.toNat (0 : Int32)).map Value.int)) :: D) (k + 1) (n + B) (pc + 2) ls (.ref a :: st)) : W Z EL R own nm bytes ml ret Q D k n pc ls (.int z :: st) :=
  W.newarr (a0 := a0) z.toInt.toNat (ad := "[B") (ty := .byte) hd rfl w (Idx.of_toInt (by omega)) rfl (by omega) ⟨hr.1, by omega⟩ (fun a => by
    have h := next a
    rw [List.map_replicate] at h
    exact W.mono (Nat.le_refl _) (by omega) h)
def cpl (l1 : List Int32) (s : Nat) (l2 : List Int32) (d n : Nat) : List Int32 := l2.take d ++ (l1.drop s).take n ++ l2.drop (d + n)
theorem W.cpyS {a b : Addr} {wa : Bool} {ada adb : String} {ty : FieldType} {l1 l2 : List Int32} {sp dp nn : Int32} {idx : Nat} (i Wt : Nat) (hd : decode bytes pc = .ok (.invokestatic idx, 3)) (w1 : (Cond.methodLink own idx Jvm.Stand.acN).before a0 Z = true) (w2 : (Cond.native Jvm.Stand.acN).before a0 Z = true) (w3 : (Cond.static Jvm.Stand.acN).before a0 Z = true) (w4 : (Cond.initialized "java/lang/System").before a0 Z = true)
    (hm : (a, wa, .inr (ada, ty, l1.map Value.int)) ∈ D) (hi : D[i]? = some (b, true, .inr (adb, ty, l2.map Value.int))) (hty : refKind ty = false) (hs : 0 ≤ sp.toInt ∧ 0 ≤ dp.toInt ∧ 0 ≤ nn.toInt ∧ sp.toInt + nn.toInt ≤ l1.length ∧ dp.toInt + nn.toInt ≤ l2.length) (hls : ls.size = ml) (hW : (st.map fun v => v.category).sum = Wt) (hr : 1 ≤ R.frames ∧ Wt + (nativeFrameWords "java/lang/System" "arraycopy" 5 + 11) ≤ R.locals)
    (hD : D.set i (b, true, .inr (adb, ty, (cpl l1 sp.toInt.toNat l2 dp.toInt.toNat nn.toInt.toNat).map Value.int)) = D') (next : W Z EL R own nm bytes ml ret Q D' k n (pc + 3) ls st) : W Z EL R own nm bytes ml ret Q D k n pc ls (.int nn :: .int dp :: .ref b :: .int sp :: .ref a :: st) :=
  W.cpy i sp.toInt.toNat dp.toInt.toNat nn.toInt.toNat Wt hd w1 w2 w3 w4 hm hi hty (Idx.of_toInt (by omega)) (Idx.of_toInt (by omega)) (Idx.of_toInt (by omega)) ⟨by rw [List.length_map]; omega, by rw [List.length_map]; omega⟩ hls hW hr
    (by rw [← hD]; simp only [cpl, List.map_append, List.map_take, List.map_drop]) next
theorem W.cloneS {a : Addr} {wa : Bool} {ad : String} {ty : FieldType} {l : List Int32} {idx : Nat} (Wt B : Nat) (hd : decode bytes pc = .ok (.invokevirtual idx, 3))
    (w1 : (Cond.methodLink own idx ⟨ad, "clone", "()Ljava/lang/Object;"⟩).before a0 Z = true) (w2 : (Cond.sameMethod ad "java/lang/Object" "clone" "()Ljava/lang/Object;").before a0 Z = true) (w3 : (Cond.native ⟨"java/lang/Object", "clone", "()Ljava/lang/Object;"⟩).before a0 Z = true)
    (w4 : (Cond.instanceMethod ⟨"java/lang/Object", "clone", "()Ljava/lang/Object;"⟩).before a0 Z = true) (w5 : (Cond.selects ad ⟨ad, "clone", "()Ljava/lang/Object;"⟩ ⟨"java/lang/Object", "clone", "()Ljava/lang/Object;"⟩).before a0 Z = true) (w6 : (Cond.castable ad "java/lang/Cloneable").before a0 Z = true)
    (hm : (a, wa, .inr (ad, ty, l.map Value.int)) ∈ D) (hne : ad ≠ "") (hN : l.length ≤ B) (hls : ls.size = ml) (hW : (st.map fun v => v.category).sum = Wt) (hr : (1 ≤ R.frames ∧ Wt + 14 ≤ R.locals) ∧ k + 1 ≤ R.cells ∧ n + B ≤ R.slots)
    (next : ∀ b, W Z EL R own nm bytes ml ret Q ((b, true, .inr (ad, ty, l.map Value.int)) :: D) (k + 1) (n + B) (pc + 3) ls (.ref b :: st)) : W Z EL R own nm bytes ml ret Q D k n pc ls (.ref a :: st) :=
  W.clone Wt l.length hd w1 w2 w3 w4 w5 w6 hm hne (List.length_map ..) hls hW ⟨hr.1, hr.2.1, by omega⟩ (fun b => W.mono (Nat.le_refl _) (by omega) (next b))
theorem sel_cpl_in {l1 l2 : List Int32} {s d n : Nat} {j : Int32} (h0 : 0 ≤ j.toInt) (h1 : d ≤ j.toInt.toNat) (h2 : j.toInt.toNat < d + n) (hs : s + n ≤ l1.length) (hd : d + n ≤ l2.length) : sel j (cpl l1 s l2 d n) = l1.getD (s + (j.toInt.toNat - d)) 0 := by
  unfold sel cpl
  have e1 : (l2.take d).length = d := by simp; omega
  have e2 : ((l1.drop s).take n).length = n := by simp; omega
  rw [List.getD_eq_getElem?_getD, List.getD_eq_getElem?_getD, List.append_assoc, List.getElem?_append_right (by omega), List.getElem?_append_left (by omega), List.getElem?_take, if_pos (by omega), List.getElem?_drop, e1]
theorem len_cpl {l1 l2 : List Int32} {s d n : Nat} (hs : s + n ≤ l1.length) (hd : d + n ≤ l2.length) : (cpl l1 s l2 d n).length = l2.length := by
  simp [cpl]; omega
def put (l : List Int32) (n : Nat) (c : List Int32) (s m : Nat) : List Int32 := l.take n ++ ((c.drop s).take m).map (fun x => x.toInt8.toInt32) ++ l.drop (n + m)
theorem len_put {l c : List Int32} {n s m : Nat} (hs : s + m ≤ c.length) (hd : n + m ≤ l.length) : (put l n c s m).length = l.length := by
  simp [put]; omega
theorem put_zero (l c : List Int32) (n s : Nat) : put l n c s 0 = l := by simp [put]
theorem put_get {l c : List Int32} {n s m : Nat} (hs : s + m ≤ c.length) (hd : n + m ≤ l.length) (i : Nat) : (put l n c s m)[i]? = if i < n then l[i]? else if i < n + m then (c[s + (i - n)]?).map (fun x => x.toInt8.toInt32) else l[i]? := by
  have e1 : (l.take n).length = n := by simp; omega
  have e2 : (((c.drop s).take m).map (fun x => x.toInt8.toInt32)).length = m := by simp; omega
  unfold put
  rw [List.append_assoc]
  by_cases h1 : i < n
  · rw [if_pos h1, List.getElem?_append_left (by omega), List.getElem?_take, if_pos h1]
  · rw [if_neg h1, List.getElem?_append_right (by omega), e1]
    by_cases h2 : i < n + m
    · rw [if_pos h2, List.getElem?_append_left (by omega), List.getElem?_map, List.getElem?_take, if_pos (by omega), List.getElem?_drop]
    · rw [if_neg h2, List.getElem?_append_right (by omega), e2, List.getElem?_drop]
      congr 1; omega
theorem put_succ {l c : List Int32} {n s m : Nat} (hs : s + (m + 1) ≤ c.length) (hd : n + (m + 1) ≤ l.length) : (put l n c s m).set (n + m) (c.getD (s + m) 0).toInt8.toInt32 = put l n c s (m + 1) := by
  apply List.ext_getElem?
  intro i
  have hc : s + m < c.length := by omega
  rw [List.getElem?_set, put_get hs hd, put_get (by omega) (by omega), len_put (by omega) (by omega)]
  by_cases hi : n + m = i
  · subst hi
    rw [if_pos rfl, if_pos (by omega), if_neg (by omega), if_pos (by omega)]
    have e : s + (n + m - n) = s + m := by omega
    rw [e, List.getD_eq_getElem?_getD, List.getElem?_eq_getElem hc]; rfl
  · rw [if_neg hi]
    by_cases h1 : i < n
    · rw [if_pos h1, if_pos h1]
    · rw [if_neg h1, if_neg h1]
      by_cases h2 : i < n + m
      · rw [if_pos h2, if_pos (by omega)]
      · rw [if_neg h2, if_neg (by omega)]
theorem getD_put_in {l c : List Int32} {n s m i : Nat} (h1 : n ≤ i) (h2 : i < n + m) (hs : s + m ≤ c.length) (hd : n + m ≤ l.length) : (put l n c s m).getD i 0 = (c.getD (s + (i - n)) 0).toInt8.toInt32 := by
  have hc : s + (i - n) < c.length := by omega
  rw [List.getD_eq_getElem?_getD, put_get hs hd, if_neg (by omega), if_pos h2, List.getD_eq_getElem?_getD, List.getElem?_eq_getElem hc]; rfl
theorem getD_put_before {l c : List Int32} {n s m i : Nat} (h1 : i < n) (hs : s + m ≤ c.length) (hd : n + m ≤ l.length) : (put l n c s m).getD i 0 = l.getD i 0 := by
  rw [List.getD_eq_getElem?_getD, List.getD_eq_getElem?_getD, put_get hs hd, if_pos h1]
end Lists
end Jvm.Wk
namespace Jvm.Wk
open Jvm Jvm.ClassFile Sem Op Lib Bundle Jvm.Free Jvm.Stand Jvm.LawKit Jvm.RoadKit
abbrev lm (l : List Int32) : List Value := l.map Value.int
theorem len_q {l : List Int32} {z : Int32} {k : Nat} (h : l.length = k) (hz : z.toInt = (k : Int)) : (l.length : Int) = z.toInt := by omega
theorem len_rep {z : Int32} (h : 0 ≤ z.toInt) : ((List.replicate z.toInt.toNat (0 : Int32)).length : Int) = z.toInt := by rw [List.length_replicate]; omega
theorem len_set {l : List Int32} {z v : Int32} {j : Nat} (h : (l.length : Int) = z.toInt) : ((List.set l j v).length : Int) = z.toInt := by rw [List.length_set]; exact h
theorem len_cplI {l1 l2 : List Int32} {s d n na nb : Int32} (h1 : (l1.length : Int) = na.toInt) (h2 : (l2.length : Int) = nb.toInt) (hb : 0 ≤ s.toInt ∧ 0 ≤ d.toInt ∧ 0 ≤ n.toInt ∧ s.toInt + n.toInt ≤ na.toInt ∧ d.toInt + n.toInt ≤ nb.toInt) :
    ((cpl l1 s.toInt.toNat l2 d.toInt.toNat n.toInt.toNat).length : Int) = nb.toInt := by
  rw [len_cpl (by omega) (by omega)]; exact h2
theorem sel_b {l : List Int32} {lo hi : Int} (h : ∀ x ∈ l, lo ≤ x.toInt ∧ x.toInt ≤ hi) (h0 : lo ≤ 0 ∧ 0 ≤ hi) (j : Int32) : lo ≤ (sel j l).toInt ∧ (sel j l).toInt ≤ hi := by
  unfold sel
  rw [List.getD_eq_getElem?_getD]
  by_cases hj : j.toInt.toNat < l.length
  · rw [List.getElem?_eq_getElem hj]; exact h _ (List.getElem_mem hj)
  · rw [List.getElem?_eq_none (by omega)]
    have e : (0 : Int32).toInt = 0 := by decide
    show lo ≤ (0 : Int32).toInt ∧ (0 : Int32).toInt ≤ hi
    rw [e]; exact h0
theorem bl4 {a b c d : Int32} {lo hi : Int} (ha : lo ≤ a.toInt ∧ a.toInt ≤ hi) (hb : lo ≤ b.toInt ∧ b.toInt ≤ hi) (hc : lo ≤ c.toInt ∧ c.toInt ≤ hi) (hd : lo ≤ d.toInt ∧ d.toInt ≤ hi) : ∀ x ∈ [a, b, c, d], lo ≤ x.toInt ∧ x.toInt ≤ hi := by
  intro x hx
  simp only [List.mem_cons, List.not_mem_nil, or_false] at hx
  rcases hx with rfl | rfl | rfl | rfl <;> assumption
theorem put_first (l c : List Int32) (n s : Int32) : l = put l n.toInt.toNat c s.toInt.toNat (s.toInt - s.toInt).toNat := by rw [Int.sub_self]; exact (put_zero ..).symm
theorem put_step {l c : List Int32} {n s i i' j N M : Int32} (hl : (l.length : Int) = N.toInt) (hc : (c.length : Int) = M.toInt) (h : 0 ≤ n.toInt ∧ 0 ≤ s.toInt ∧ s.toInt ≤ i.toInt ∧ i.toInt < M.toInt ∧ j.toInt + s.toInt = n.toInt + i.toInt ∧ j.toInt < N.toInt ∧ i'.toInt = i.toInt + 1) :
    List.set (put l n.toInt.toNat c s.toInt.toNat (i.toInt - s.toInt).toNat) j.toInt.toNat (sel i c).toInt8.toInt32 = put l n.toInt.toNat c s.toInt.toNat (i'.toInt - s.toInt).toNat := by
  have e1 : j.toInt.toNat = n.toInt.toNat + (i.toInt - s.toInt).toNat := by omega
  have e2 : (i'.toInt - s.toInt).toNat = (i.toInt - s.toInt).toNat + 1 := by omega
  have e3 : i.toInt.toNat = s.toInt.toNat + (i.toInt - s.toInt).toNat := by omega
  rw [e1, e2, ← put_succ (by omega) (by omega)]
  unfold sel
  rw [← e3]
theorem len_putI {l c : List Int32} {n s m N M : Int32} (hl : (l.length : Int) = N.toInt) (hc : (c.length : Int) = M.toInt) (h : 0 ≤ n.toInt ∧ 0 ≤ s.toInt ∧ 0 ≤ m.toInt ∧ s.toInt + m.toInt ≤ M.toInt ∧ n.toInt + m.toInt ≤ N.toInt) : ((put l n.toInt.toNat c s.toInt.toNat m.toInt.toNat).length : Int) = N.toInt := by
  rw [len_put (by omega) (by omega)]; exact hl
theorem sel_put_in {l c : List Int32} {n s m N M i k : Int32} (hl : (l.length : Int) = N.toInt) (hc : (c.length : Int) = M.toInt) (h : 0 ≤ n.toInt ∧ 0 ≤ s.toInt ∧ 0 ≤ m.toInt ∧ s.toInt + m.toInt ≤ M.toInt ∧ n.toInt + m.toInt ≤ N.toInt ∧ n.toInt ≤ i.toInt ∧ i.toInt < n.toInt + m.toInt ∧ k.toInt = s.toInt + (i.toInt - n.toInt)) :
    sel i (put l n.toInt.toNat c s.toInt.toNat m.toInt.toNat) = (sel k c).toInt8.toInt32 := by
  unfold sel
  rw [getD_put_in (by omega) (by omega) (by omega) (by omega)]
  have e : s.toInt.toNat + (i.toInt.toNat - n.toInt.toNat) = k.toInt.toNat := by omega
  rw [e]
theorem sel_put_before {l c : List Int32} {n s m N M i : Int32} (hl : (l.length : Int) = N.toInt) (hc : (c.length : Int) = M.toInt) (h : 0 ≤ n.toInt ∧ 0 ≤ s.toInt ∧ 0 ≤ m.toInt ∧ s.toInt + m.toInt ≤ M.toInt ∧ n.toInt + m.toInt ≤ N.toInt ∧ 0 ≤ i.toInt ∧ i.toInt < n.toInt) :
    sel i (put l n.toInt.toNat c s.toInt.toNat m.toInt.toNat) = sel i l := by
  unfold sel
  rw [getD_put_before (by omega) (by omega) (by omega)]
theorem sel_cpl0 {l1 l2 : List Int32} {n N1 N2 i : Int32} (h1 : (l1.length : Int) = N1.toInt) (h2 : (l2.length : Int) = N2.toInt) (h : 0 ≤ i.toInt ∧ i.toInt < n.toInt ∧ n.toInt ≤ N1.toInt ∧ n.toInt ≤ N2.toInt) :
    sel i (cpl l1 (0 : Int32).toInt.toNat l2 (0 : Int32).toInt.toNat n.toInt.toNat) = sel i l1 := by
  have e0 : (0 : Int32).toInt.toNat = 0 := by decide
  rw [e0, sel_cpl_in h.1 (Nat.zero_le _) (by omega) (by omega) (by omega)]
  unfold sel
  rw [Nat.zero_add, Nat.sub_zero]
end Jvm.Wk
namespace Jvm.Wk
open Jvm Jvm.ClassFile Sem Op Lib Bundle Jvm.Free Jvm.Stand Jvm.LawKit Jvm.RoadKit
end Jvm.Wk
namespace Jvm.Wk
open Jvm Jvm.ClassFile Sem Op Lib Bundle Jvm.Free Jvm.Stand Jvm.LawKit Jvm.RoadKit
def dg (l : List Int32) (i : Nat) : Int := (l.getD i 0).toInt - 48
def seg (l : List Int32) (p : Nat) : Nat → Int
  | 0 => 0
  | m + 1 => 10 * seg l p m + dg l (p + m)
def Dg (l : List Int32) (a b : Nat) : Prop := ∀ i, a ≤ i → i < b → 0 ≤ dg l i ∧ dg l i ≤ 9
def Sz (v n : Nat) : Prop := 1 ≤ n ∧ n ≤ 16 ∧ v < 10 ^ n ∧ (n = 1 ∨ 10 ^ (n - 1) ≤ v)
def GC (v n : Nat) (g : List Int32) (p q : Nat) : Prop := 1 ≤ p ∧ p ≤ n ∧ Dg g p n ∧ (v : Int) = (q : Int) * 10 ^ (n - p) + seg g p (n - p) ∧ q < 10 ^ p ∧ (p = 1 ∨ 10 ^ (p - 1) ≤ q)
theorem GC.start {v n : Nat} (g : List Int32) (h : Sz v n) : GC v n g n v := by
  obtain ⟨h1, h2, h3, h4⟩ := h
  refine ⟨h1, Nat.le_refl _, fun i a b => absurd b (by omega), ?_, h3, h4⟩
  rw [Nat.sub_self]; simp [seg]
theorem GC.p3 {v n p q : Nat} {g : List Int32} (h : GC v n g p q) (hq : 100 ≤ q) : 3 ≤ p := by
  obtain ⟨h1, h2, h3, h4, h5, h6⟩ := h
  by_cases c : p = 1
  · subst c; simp at h5; omega
  · by_cases c2 : p = 2
    · subst c2; simp at h5; omega
    · omega
theorem GC.p1 {v n p q : Nat} {g : List Int32} (h : GC v n g p q) (hq : q < 10) : p = 1 := by
  obtain ⟨h1, h2, h3, h4, h5, h6⟩ := h
  rcases h6 with h6 | h6
  · exact h6
  · obtain ⟨k, rfl⟩ : ∃ k, p = k + 1 := ⟨p - 1, by omega⟩
    cases k with
    | zero => rfl
    | succ k =>
      have : 10 ^ (k + 1 + 1 - 1) = 10 ^ k * 10 := by rw [show k + 1 + 1 - 1 = k + 1 from by omega, Nat.pow_succ]
      have : 0 < 10 ^ k := Nat.pow_pos (by decide)
      omega
theorem GC.p2 {v n p q : Nat} {g : List Int32} (h : GC v n g p q) (hq : 10 ≤ q) (hq2 : q < 100) : p = 2 := by
  obtain ⟨h1, h2, h3, h4, h5, h6⟩ := h
  by_cases c : p = 1
  · subst c; simp at h5; omega
  · rcases h6 with h6 | h6
    · omega
    · obtain ⟨k, rfl⟩ : ∃ k, p = k + 2 := ⟨p - 2, by omega⟩
      cases k with
      | zero => rfl
      | succ k =>
        have : 10 ^ (k + 1 + 2 - 1) = 10 ^ k * 10 * 10 := by rw [show k + 1 + 2 - 1 = k + 1 + 1 from by omega, Nat.pow_succ, Nat.pow_succ]
        have : 0 < 10 ^ k := Nat.pow_pos (by decide)
        omega
end Jvm.Wk
namespace Jvm.Wk
open Jvm Jvm.ClassFile Sem Op Lib Bundle Jvm.Free Jvm.Stand Jvm.LawKit Jvm.RoadKit
section Hand
variable {Z : State} {EL : Bool × List (String × Nat)} {R : Room} {own nm : String} {bytes : ByteArray} {ml : Nat} {ret : Option FieldType} {Q : Option Value → List Ent → Prop} {D D' : List Ent} {k n pc : Nat} {ls ls' : Array Slot} {st : List Value} {a0 : Array Value}
variable {y : MethodName} {cb : ByteArray} {cm : Nat} {cr : Option FieldType} {rm : Room} {as : List Value} {Q' : Option Value → List Ent → Prop} {idx : Nat} {hs : List (Nat × Nat × Nat × Nat)}
def ConH (Z : State) (EL : Bool × List (String × Nat)) (y : MethodName) (bytes : ByteArray) (maxL : Nat) (ret : Option FieldType) (hs : List (Nat × Nat × Nat × Nat)) (rm : Room) (as : List Value) (D : List Ent) (Q : Option Value → List Ent → Prop) : Prop :=
  ELok Z EL → ∀ (l : Launch) (ws : List Cond), MetFree l y (head1 (Cond.codeWith y bytes maxL ret hs :: ws) rm) (fun a U => a = as.toArray ∧ Z.Warmed39 U.vm ∧ Hp Z EL D U.vm U.heap) (fun _ _ _ _ _ => True) (fun _ U o U' => Res Z EL Q rm U o U')
theorem ConH.of {y : MethodName} {as : List Value} (hpl : plainFor y = true) (hent : Jvm.Sym.laidSlots as ++ List.replicate (ml - (Jvm.Sym.laidSlots as).length) .unset = ls.toList) (hW : W Z EL R y.cls y.name bytes ml ret Q D 0 0 0 ls []) : ConH Z EL y bytes ml ret hs R as D Q := by
  intro hE l ws
  refine MetFree.of_bodySF hpl hisWith ?_
  intro p e s m args below meth c s₁ Bd hml0 hP hK
  obtain ⟨rfl, hZ, hh⟩ := hP
  have e0 : s₁.heap = s.heap := by rw [Bd.state]; rfl
  obtain ⟨s₂, o, h1, r⟩ := hW p l e s m as.toArray below meth c s₁ s.vm 0 [] 0 0
    ⟨Stand.of_body Bd, (State.WarmedH.refl s).since 0, Nat.zero_le _, Bd.exec, Bd.bytes, hml0, findClass_of_methodNamed Bd.named, hZ, Bd.returns, Bd.notSynchronized, (name_of_methodNamed Bd.named Bd.method).1, Fr.nil _, by rw [e0]; exact hh, Nat.le_refl _, Nat.le_refl _, hE, fun _ => rfl⟩
  exact ⟨s₂, o, (XT.entry (by simpa using hent)).trans h1, r⟩
end Hand
end Jvm.Wk
namespace Jvm.Wk
open Jvm Jvm.ClassFile Sem Op Lib Bundle Jvm.Free Jvm.Stand Jvm.LawKit Jvm.RoadKit
section Hand2
variable {Z : State} {EL : Bool × List (String × Nat)} {R : Room} {own nm : String} {bytes : ByteArray} {ml : Nat} {ret : Option FieldType} {Q : Option Value → List Ent → Prop} {D D' : List Ent} {k n pc : Nat} {ls ls' : Array Slot} {st : List Value} {a0 : Array Value}
variable {y : MethodName} {cb : ByteArray} {cm : Nat} {cr : Option FieldType} {rm : Room} {as : List Value} {Q' : Option Value → List Ent → Prop} {idx : Nat} {hs : List (Nat × Nat × Nat × Nat)}
end Hand2
end Jvm.Wk
namespace Jvm.Wk
open Jvm Jvm.ClassFile Sem Op Lib Bundle Jvm.Free Jvm.Stand Jvm.LawKit Jvm.RoadKit
end Jvm.Wk

namespace Jvm.Pilot.@@N@@
open Jvm Jvm.ClassFile Sem Op Lib Jvm.Free Jvm.Stand Jvm.LawKit Jvm.RoadKit Bundle Jvm.Wk Jvm.Pilot.@@N@@.Jvm.D
abbrev EL : Bool × List (String × Nat) := (false, consts_1)
def csv (Z : State) : Int32 := si Z "java/lang/String" "COMPACT_STRINGS" "Z"
def sfv (Z : State) : Value := sv Z "jdk/internal/util/Preconditions" "SIOOBE_FORMATTER" "Ljava/util/function/BiFunction;"
def ifv (Z : State) : Value := sv Z "jdk/internal/util/Preconditions" "IOOBE_FORMATTER" "Ljava/util/function/BiFunction;"
def og1 (Z : State) : Addr := ta Z (Jvm.Term.static "java/util/ArrayList" "DEFAULTCAPACITY_EMPTY_ELEMENTDATA" "[Ljava/lang/Object;")
def SF (Z : State) : Prop := Sta Z Z.heap "java/lang/String" "COMPACT_STRINGS" "Z" (.int (csv Z)) ∧ (csv Z).toInt ≠ 0 ∧ (sfv Z).isRef = true ∧ Sta Z Z.heap "jdk/internal/util/Preconditions" "SIOOBE_FORMATTER" "Ljava/util/function/BiFunction;" (sfv Z) ∧ (ifv Z).isRef = true ∧ Sta Z Z.heap "jdk/internal/util/Preconditions" "IOOBE_FORMATTER" "Ljava/util/function/BiFunction;" (ifv Z) ∧ Sta Z Z.heap "java/util/ArrayList" "DEFAULTCAPACITY_EMPTY_ELEMENTDATA" "[Ljava/lang/Object;" (.ref (og1 Z)) ∧ True
set_option maxRecDepth 65536
abbrev HW (a0 : Array Value) (Z : State) : Prop := ∀ d ∈ tables_1, d.before a0 Z = true
theorem wq {Z a0} (hw : HW a0 Z) (i : Nat) {d : Jvm.Cond} (h : tables_1[i]? = some d) : d.before a0 Z = true := hw _ (List.mem_of_getElem? h)
abbrev rmm (a b c d : Nat) : Room := { frames := a, cells := b, slots := c, locals := d }
theorem ix4 : Idx (4 : Int32) 4 := by unfold Idx; decide
theorem q255 : (255 : Int32).toInt = 255 := by decide
theorem am_255 (x : Int32) : (x &&& (255 : Int32)).toInt = x.toInt % 256 := a_and x 255 8 256 (by decide) (by decide) (by decide)
theorem ix0 : Idx (0 : Int32) 0 := by unfold Idx; decide
theorem q8 : (8 : Int32).toInt = 8 := by decide
theorem aushr_8 (x : Int32) : (XT.ushr x (8 : Int32)).toInt = (x.toInt % 4294967296) / 256 := a_ushr x 8 8 256 (by decide) (by decide) (by decide)
theorem ix1 : Idx (1 : Int32) 1 := by unfold Idx; decide
theorem q16 : (16 : Int32).toInt = 16 := by decide
theorem aushr_16 (x : Int32) : (XT.ushr x (16 : Int32)).toInt = (x.toInt % 4294967296) / 65536 := a_ushr x 16 16 65536 (by decide) (by decide) (by decide)
theorem ix2 : Idx (2 : Int32) 2 := by unfold Idx; decide
theorem q24 : (24 : Int32).toInt = 24 := by decide
theorem aushr_24 (x : Int32) : (XT.ushr x (24 : Int32)).toInt = (x.toInt % 4294967296) / 16777216 := a_ushr x 24 24 16777216 (by decide) (by decide) (by decide)
theorem ix3 : Idx (3 : Int32) 3 := by unfold Idx; decide
theorem q5 : (5 : Int32).toInt = 5 := by decide
theorem q0 : (0 : Int32).toInt = 0 := by decide
theorem q2 : (2 : Int32).toInt = 2 := by decide
theorem aushr_2 (x : Int32) : (XT.ushr x (2 : Int32)).toInt = (x.toInt % 4294967296) / 4 := a_ushr x 2 2 4 (by decide) (by decide) (by decide)
theorem q7 : (7 : Int32).toInt = 7 := by decide
theorem am_7 (x : Int32) : (x &&& (7 : Int32)).toInt = x.toInt % 8 := a_and x 7 3 8 (by decide) (by decide) (by decide)
theorem laXmlElement {Z a0} (hw : HW a0 Z) : LaidAll Z a0 "com/example/montaje/montaje/xml/XmlElement" [("com/example/montaje/montaje/xml/XmlElement", "children", "Ljava/util/List;", .null), ("com/example/montaje/montaje/xml/XmlElement", "namespaceUri", "Ljava/lang/String;", .null), ("com/example/montaje/montaje/xml/XmlElement", "localName", "Ljava/lang/String;", .null), ("com/example/montaje/montaje/xml/XmlElement", "qualifiedName", "Ljava/lang/String;", .null), ("com/example/montaje/montaje/xml/XmlElement", "line", "I", (vi 0)), ("com/example/montaje/montaje/xml/XmlElement", "attributes", "Ljava/util/Map;", .null), ("com/example/montaje/montaje/xml/XmlElement", "namespacedAttributes", "Ljava/util/List;", .null), ("com/example/montaje/montaje/xml/XmlElement", "text", "Ljava/lang/StringBuilder;", .null)] := ⟨⟨Or.inr (wq hw 44 rfl), (.object "java/util/List"), by decide, rfl⟩, ⟨⟨Or.inr (wq hw 46 rfl), (.object "java/lang/String"), by decide, rfl⟩, ⟨⟨Or.inr (wq hw 48 rfl), (.object "java/lang/String"), by decide, rfl⟩, ⟨⟨Or.inr (wq hw 50 rfl), (.object "java/lang/String"), by decide, rfl⟩, ⟨⟨Or.inr (wq hw 52 rfl), .int, by decide, rfl⟩, ⟨⟨Or.inr (wq hw 54 rfl), (.object "java/util/Map"), by decide, rfl⟩, ⟨⟨Or.inr (wq hw 56 rfl), (.object "java/util/List"), by decide, rfl⟩, ⟨⟨Or.inl (wq hw 63 rfl), (.object "java/lang/StringBuilder"), by decide, rfl⟩, trivial⟩⟩⟩⟩⟩⟩⟩⟩
theorem tx_ : (∀ c ∈ ("" : String).toList, c.toNat < 256) ∧ ("" : String).toList.map (fun c => Value.int (Jvm.Lit.byteI c.toNat.toUInt16)) = [] := by decide
theorem wS {Z a0} (hw : HW a0 Z) : ∀ a ∈ Bundle.stringAtoms, a.before a0 Z = true := wS_of (wq hw 5 rfl) (wq hw 6 rfl) (wq hw 7 rfl) (wq hw 8 rfl) (wq hw 9 rfl) (wq hw 10 rfl) (wq hw 11 rfl)
theorem tx_65 : (∀ c ∈ ("e" : String).toList, c.toNat < 256) ∧ ("e" : String).toList.map (fun c => Value.int (Jvm.Lit.byteI c.toNat.toUInt16)) = [(.int (101 : Int32))] := by decide
theorem d1_0 : decode prog_64_method_1_code 0 = .ok (.aload_n 0, 1) := by decide +kernel
theorem d1_1 : decode prog_64_method_1_code 1 = .ok (.invokespecial 1, 3) := by decide +kernel
theorem d1_4 : decode prog_64_method_1_code 4 = .ok (.aload_n 0, 1) := by decide +kernel
theorem d1_5 : decode prog_64_method_1_code 5 = .ok (.new 7, 3) := by decide +kernel
theorem laArrayList {Z a0} (hw : HW a0 Z) : LaidAll Z a0 "java/util/ArrayList" [("java/util/AbstractList", "modCount", "I", (vi 0)), ("java/util/ArrayList", "elementData", "[Ljava/lang/Object;", .null)] := ⟨⟨Or.inl (wq hw 39 rfl), .int, by decide, rfl⟩, ⟨⟨Or.inl (wq hw 42 rfl), (.array (.object "java/lang/Object")), by decide, rfl⟩, trivial⟩⟩
theorem d1_8 : decode prog_64_method_1_code 8 = .ok (.dup, 1) := by decide +kernel
theorem d1_9 : decode prog_64_method_1_code 9 = .ok (.invokespecial 9, 3) := by decide +kernel
theorem d3_0 : decode jdk_38_method_2_code 0 = .ok (.aload_n 0, 1) := by decide +kernel
theorem d3_1 : decode jdk_38_method_2_code 1 = .ok (.invokespecial 1, 3) := by decide +kernel
theorem d4_0 : decode jdk_39_method_1_code 0 = .ok (.aload_n 0, 1) := by decide +kernel
theorem d4_1 : decode jdk_39_method_1_code 1 = .ok (.invokespecial 1, 3) := by decide +kernel
theorem d5_0 : decode jdk_22_method_1_code 0 = .ok (.aload_n 0, 1) := by decide +kernel
theorem d5_1 : decode jdk_22_method_1_code 1 = .ok (.invokespecial 1, 3) := by decide +kernel
theorem d5_4 : decode jdk_22_method_1_code 4 = .ok (.return_, 1) := by decide +kernel
abbrev oArrayList (f0 f1 : Value) : Desc := .inl ("java/util/ArrayList", [("java/util/AbstractList", "modCount", "I", f0), ("java/util/ArrayList", "elementData", "[Ljava/lang/Object;", f1)])
abbrev y1 : MethodName := ⟨"java/util/AbstractCollection", "<init>", "()V"⟩
abbrev y1b : ByteArray := jdk_22_method_1_code
abbrev y1r : Option Jvm.ClassFile.FieldType := (Option.none : Option Jvm.ClassFile.FieldType)
theorem c4_init {Z a0} (hw : HW a0 Z) (hs : SF Z) {p1 : Addr} {F : List Ent} : Con Z EL y1 y1b 1 y1r (rmm 1 0 0 12) [(vr p1)] (F) (fun v D' => (v = none ∧ F = D')) := by
  refine Con.of (ls := #[rv p1]) (by decide +kernel) rfl ?_
  refine W.aloadN d5_0 rfl rfl ?_
  refine W.initO 0 d5_1 (wq hw 37 rfl) (wq hw 17 rfl) (wq hw 18 rfl) rfl rfl (by decide) ?_
  exact W.return_ d5_4 rfl (by decide) ⟨rfl, rfl⟩
theorem pd__V : parseMethodDescriptor "()V" = some ⟨[], none⟩ := by decide +kernel
theorem d4_4 : decode jdk_39_method_1_code 4 = .ok (.aload_n 0, 1) := by decide +kernel
theorem d4_5 : decode jdk_39_method_1_code 5 = .ok (.iconst 0, 1) := by decide +kernel
theorem d4_6 : decode jdk_39_method_1_code 6 = .ok (.putfield 7, 3) := by decide +kernel
theorem pfI : parseFieldDescriptor "I" = some .int := by decide
theorem d4_9 : decode jdk_39_method_1_code 9 = .ok (.return_, 1) := by decide +kernel
abbrev y2 : MethodName := ⟨"java/util/AbstractList", "<init>", "()V"⟩
abbrev y2b : ByteArray := jdk_39_method_1_code
abbrev y2r : Option Jvm.ClassFile.FieldType := (Option.none : Option Jvm.ClassFile.FieldType)
theorem c3_init {Z a0} (hw : HW a0 Z) (hs : SF Z) {p1 : Addr} {f_p1_1 : Value} {F : List Ent} : Con Z EL y2 y2b 1 y2r (rmm 2 0 0 24) [(vr p1)] ((p1, true, oArrayList (vi 0) f_p1_1) :: F) (fun v D' => (v = none ∧ (p1, true, oArrayList (vi 0) f_p1_1) :: F = D')) := by
  refine Con.of (ls := #[rv p1]) (by decide +kernel) rfl ?_
  refine W.aloadN d4_0 rfl rfl ?_
  refine W.callI (as := []) 0 [] d4_1 rfl (wq hw 31 rfl) (wq hw 32 rfl) (wq hw 35 rfl) (wq hw 36 rfl) (c4_init hw hs) (by decide) pd__V rfl rfl rfl rfl (by decide) (fun v D' h => ?_)
  obtain ⟨rfl, rfl⟩ := h
  show W _ _ _ _ _ _ _ _ _ _ _ _ 4 _ []
  refine W.aloadN d4_4 rfl rfl ?_
  refine W.iconst (0) d4_5 (by decide) ?_
  refine W.putf (D' := (p1, true, oArrayList (vi 0) f_p1_1) :: F) 0 0 d4_6 (wq hw 38 rfl) Via.refl rfl rfl (Or.inl (wq hw 39 rfl)) (wq hw 20 rfl) pfI rfl rfl rfl ?_
  exact W.return_ d4_9 rfl (by decide) ⟨rfl, rfl⟩
theorem d3_4 : decode jdk_38_method_2_code 4 = .ok (.aload_n 0, 1) := by decide +kernel
theorem d3_5 : decode jdk_38_method_2_code 5 = .ok (.getstatic 39, 3) := by decide +kernel
theorem d3_8 : decode jdk_38_method_2_code 8 = .ok (.putfield 9, 3) := by decide +kernel
theorem pf_Ljava_lang_Object_ : parseFieldDescriptor "[Ljava/lang/Object;" = some (.array (.object "java/lang/Object")) := by decide
theorem d3_11 : decode jdk_38_method_2_code 11 = .ok (.return_, 1) := by decide +kernel
abbrev y3 : MethodName := ⟨"java/util/ArrayList", "<init>", "()V"⟩
abbrev y3b : ByteArray := jdk_38_method_2_code
abbrev y3r : Option Jvm.ClassFile.FieldType := (Option.none : Option Jvm.ClassFile.FieldType)
theorem c2_init {Z a0} (hw : HW a0 Z) (hs : SF Z) {p1 : Addr} {F : List Ent} : Con Z EL y3 y3b 1 y3r (rmm 3 0 0 36) [(vr p1)] ((p1, true, oArrayList (vi 0) .null) :: F) (fun v D' => (v = none ∧ (p1, true, oArrayList (vi 0) (vr (og1 Z))) :: F = D')) := by
  refine Con.of (ls := #[rv p1]) (by decide +kernel) rfl ?_
  refine W.aloadN d3_0 rfl rfl ?_
  refine W.callI (as := []) 0 [] d3_1 rfl (wq hw 25 rfl) (wq hw 26 rfl) (wq hw 29 rfl) (wq hw 30 rfl) (c3_init hw hs) (by decide) pd__V rfl rfl rfl rfl (by decide) (fun v D' h => ?_)
  obtain ⟨rfl, rfl⟩ := h
  show W _ _ _ _ _ _ _ _ _ _ _ _ 4 _ []
  refine W.aloadN d3_4 rfl rfl ?_
  refine W.gets d3_5 (wq hw 40 rfl) Via.refl hs.2.2.2.2.2.2.1 ?_
  refine W.putf (D' := (p1, true, oArrayList (vi 0) (vr (og1 Z))) :: F) 0 1 d3_8 (wq hw 41 rfl) Via.refl rfl rfl (Or.inl (wq hw 42 rfl)) (wq hw 20 rfl) pf_Ljava_lang_Object_ rfl rfl rfl ?_
  exact W.return_ d3_11 rfl (by decide) ⟨rfl, rfl⟩
theorem d1_12 : decode prog_64_method_1_code 12 = .ok (.putfield 10, 3) := by decide +kernel
theorem pfLjava_util_List_ : parseFieldDescriptor "Ljava/util/List;" = some (.object "java/util/List") := by decide
abbrev oXmlElement (f0 f1 f2 f3 f4 f5 f6 f7 : Value) : Desc := .inl ("com/example/montaje/montaje/xml/XmlElement", [("com/example/montaje/montaje/xml/XmlElement", "children", "Ljava/util/List;", f0), ("com/example/montaje/montaje/xml/XmlElement", "namespaceUri", "Ljava/lang/String;", f1), ("com/example/montaje/montaje/xml/XmlElement", "localName", "Ljava/lang/String;", f2), ("com/example/montaje/montaje/xml/XmlElement", "qualifiedName", "Ljava/lang/String;", f3), ("com/example/montaje/montaje/xml/XmlElement", "line", "I", f4), ("com/example/montaje/montaje/xml/XmlElement", "attributes", "Ljava/util/Map;", f5), ("com/example/montaje/montaje/xml/XmlElement", "namespacedAttributes", "Ljava/util/List;", f6), ("com/example/montaje/montaje/xml/XmlElement", "text", "Ljava/lang/StringBuilder;", f7)])
abbrev oString (f0 f1 : Value) : Desc := .inl ("java/lang/String", [("java/lang/String", "value", "[B", f0), ("java/lang/String", "coder", "B", f1)])
theorem d1_15 : decode prog_64_method_1_code 15 = .ok (.aload_n 0, 1) := by decide +kernel
theorem d1_16 : decode prog_64_method_1_code 16 = .ok (.aload_n 1, 1) := by decide +kernel
theorem d1_17 : decode prog_64_method_1_code 17 = .ok (.putfield 16, 3) := by decide +kernel
theorem pfLjava_lang_String_ : parseFieldDescriptor "Ljava/lang/String;" = some (.object "java/lang/String") := by decide
theorem d1_20 : decode prog_64_method_1_code 20 = .ok (.aload_n 0, 1) := by decide +kernel
theorem d1_21 : decode prog_64_method_1_code 21 = .ok (.aload_n 2, 1) := by decide +kernel
theorem d1_22 : decode prog_64_method_1_code 22 = .ok (.putfield 20, 3) := by decide +kernel
theorem d1_25 : decode prog_64_method_1_code 25 = .ok (.aload_n 0, 1) := by decide +kernel
theorem d1_26 : decode prog_64_method_1_code 26 = .ok (.aload_n 3, 1) := by decide +kernel
theorem d1_27 : decode prog_64_method_1_code 27 = .ok (.putfield 23, 3) := by decide +kernel
theorem d1_30 : decode prog_64_method_1_code 30 = .ok (.aload_n 0, 1) := by decide +kernel
theorem d1_31 : decode prog_64_method_1_code 31 = .ok (.iload 4, 2) := by decide +kernel
theorem d1_33 : decode prog_64_method_1_code 33 = .ok (.putfield 26, 3) := by decide +kernel
theorem d1_36 : decode prog_64_method_1_code 36 = .ok (.aload_n 0, 1) := by decide +kernel
theorem d1_37 : decode prog_64_method_1_code 37 = .ok (.aload 5, 2) := by decide +kernel
theorem d1_39 : decode prog_64_method_1_code 39 = .ok (.putfield 30, 3) := by decide +kernel
theorem pfLjava_util_Map_ : parseFieldDescriptor "Ljava/util/Map;" = some (.object "java/util/Map") := by decide
theorem d1_42 : decode prog_64_method_1_code 42 = .ok (.aload_n 0, 1) := by decide +kernel
theorem d1_43 : decode prog_64_method_1_code 43 = .ok (.aload 6, 2) := by decide +kernel
theorem d1_45 : decode prog_64_method_1_code 45 = .ok (.putfield 34, 3) := by decide +kernel
theorem d1_48 : decode prog_64_method_1_code 48 = .ok (.return_, 1) := by decide +kernel
abbrev y4 : MethodName := ⟨"com/example/montaje/montaje/xml/XmlElement", "<init>", "(Ljava/lang/String;Ljava/lang/String;Ljava/lang/String;ILjava/util/Map;Ljava/util/List;)V"⟩
abbrev y4b : ByteArray := prog_64_method_1_code
abbrev y4r : Option Jvm.ClassFile.FieldType := (Option.none : Option Jvm.ClassFile.FieldType)
theorem c1_init {Z a0} (hw : HW a0 Z) (hs : SF Z) {p1 p2 p3 p4 : Addr} {f_p1_7 : Value} {F : List Ent} : Con Z EL y4 y4b 7 y4r (rmm 4 1 3 50) [(vr p1), (vr p2), (vr p3), (vr p4), (vi 1), .null, .null] ((p1, true, oXmlElement .null .null .null .null (vi 0) .null .null f_p1_7) :: F) (fun v D' => (∃ a1 : Addr, v = none ∧ (a1, true, oArrayList (vi 0) (vr (og1 Z))) :: (p1, true, oXmlElement (vr a1) (vr p2) (vr p3) (vr p4) (vi 1) .null .null f_p1_7) :: F = D')) := by
  refine Con.of (ls := #[rv p1, rv p2, rv p3, rv p4, iv 1, .val .null, .val .null]) (by decide +kernel) rfl ?_
  refine W.aloadN d1_0 rfl rfl ?_
  refine W.initO 0 d1_1 (wq hw 16 rfl) (wq hw 17 rfl) (wq hw 18 rfl) rfl rfl (by decide) ?_
  refine W.aloadN d1_4 rfl rfl ?_
  refine W.new d1_5 (wq hw 19 rfl) (wq hw 20 rfl) (wq hw 21 rfl) (laArrayList hw) (by decide) (by decide) (fun a1 => ?_)
  show W _ _ _ _ _ _ _ _ _ _ _ _ 8 _ [(vr a1), (vr p1)]
  refine W.dup d1_8 rfl ?_
  refine W.callI (as := []) 2 [(vr a1), (vr p1)] d1_9 rfl (wq hw 22 rfl) (wq hw 23 rfl) (wq hw 21 rfl) (wq hw 24 rfl) (c2_init hw hs) (by decide) pd__V rfl rfl rfl rfl (by decide) (fun v D' h => ?_)
  obtain ⟨rfl, rfl⟩ := h
  show W _ _ _ _ _ _ _ _ _ _ _ _ 12 _ [(vr a1), (vr p1)]
  refine W.putf (D' := (a1, true, oArrayList (vi 0) (vr (og1 Z))) :: (p1, true, oXmlElement (vr a1) .null .null .null (vi 0) .null .null f_p1_7) :: F) 1 0 d1_12 (wq hw 43 rfl) Via.refl rfl rfl (Or.inr ⟨(wq hw 44 rfl), rfl, rfl⟩) (wq hw 2 rfl) pfLjava_util_List_ rfl rfl rfl ?_
  refine W.aloadN d1_15 rfl rfl ?_
  refine W.aloadN d1_16 rfl rfl ?_
  refine W.putf (D' := (a1, true, oArrayList (vi 0) (vr (og1 Z))) :: (p1, true, oXmlElement (vr a1) (vr p2) .null .null (vi 0) .null .null f_p1_7) :: F) 1 1 d1_17 (wq hw 45 rfl) Via.refl rfl rfl (Or.inr ⟨(wq hw 46 rfl), rfl, rfl⟩) (wq hw 2 rfl) pfLjava_lang_String_ rfl rfl rfl ?_
  refine W.aloadN d1_20 rfl rfl ?_
  refine W.aloadN d1_21 rfl rfl ?_
  refine W.putf (D' := (a1, true, oArrayList (vi 0) (vr (og1 Z))) :: (p1, true, oXmlElement (vr a1) (vr p2) (vr p3) .null (vi 0) .null .null f_p1_7) :: F) 1 2 d1_22 (wq hw 47 rfl) Via.refl rfl rfl (Or.inr ⟨(wq hw 48 rfl), rfl, rfl⟩) (wq hw 2 rfl) pfLjava_lang_String_ rfl rfl rfl ?_
  refine W.aloadN d1_25 rfl rfl ?_
  refine W.aloadN d1_26 rfl rfl ?_
  refine W.putf (D' := (a1, true, oArrayList (vi 0) (vr (og1 Z))) :: (p1, true, oXmlElement (vr a1) (vr p2) (vr p3) (vr p4) (vi 0) .null .null f_p1_7) :: F) 1 3 d1_27 (wq hw 49 rfl) Via.refl rfl rfl (Or.inr ⟨(wq hw 50 rfl), rfl, rfl⟩) (wq hw 2 rfl) pfLjava_lang_String_ rfl rfl rfl ?_
  refine W.aloadN d1_30 rfl rfl ?_
  refine W.iload d1_31 rfl ?_
  refine W.putf (D' := (a1, true, oArrayList (vi 0) (vr (og1 Z))) :: (p1, true, oXmlElement (vr a1) (vr p2) (vr p3) (vr p4) (vi 1) .null .null f_p1_7) :: F) 1 4 d1_33 (wq hw 51 rfl) Via.refl rfl rfl (Or.inr ⟨(wq hw 52 rfl), rfl, rfl⟩) (wq hw 2 rfl) pfI rfl rfl rfl ?_
  refine W.aloadN d1_36 rfl rfl ?_
  refine W.aload 5 d1_37 rfl rfl ?_
  refine W.putf (D' := (a1, true, oArrayList (vi 0) (vr (og1 Z))) :: (p1, true, oXmlElement (vr a1) (vr p2) (vr p3) (vr p4) (vi 1) .null .null f_p1_7) :: F) 1 5 d1_39 (wq hw 53 rfl) Via.refl rfl rfl (Or.inr ⟨(wq hw 54 rfl), rfl, rfl⟩) (wq hw 2 rfl) pfLjava_util_Map_ rfl rfl rfl ?_
  refine W.aloadN d1_42 rfl rfl ?_
  refine W.aload 6 d1_43 rfl rfl ?_
  refine W.putf (D' := (a1, true, oArrayList (vi 0) (vr (og1 Z))) :: (p1, true, oXmlElement (vr a1) (vr p2) (vr p3) (vr p4) (vi 1) .null .null f_p1_7) :: F) 1 6 d1_45 (wq hw 55 rfl) Via.refl rfl rfl (Or.inr ⟨(wq hw 56 rfl), rfl, rfl⟩) (wq hw 2 rfl) pfLjava_util_List_ rfl rfl rfl ?_
  exact W.return_ d1_48 rfl (by decide) ⟨a1, rfl, rfl⟩
theorem pd_Ljava_lang_String_Ljava_lang_String_Ljava_lang_String_ILjava_util_Map_Ljava_util_List__V : parseMethodDescriptor "(Ljava/lang/String;Ljava/lang/String;Ljava/lang/String;ILjava/util/Map;Ljava/util/List;)V" = some ⟨[(.object "java/lang/String"), (.object "java/lang/String"), (.object "java/lang/String"), .int, (.object "java/util/Map"), (.object "java/util/List")], none⟩ := by decide +kernel
theorem d6_0 : decode prog_64_method_10_code 0 = .ok (.aload_n 0, 1) := by decide +kernel
theorem d6_1 : decode prog_64_method_10_code 1 = .ok (.getfield 55, 3) := by decide +kernel
theorem d6_4 : decode prog_64_method_10_code 4 = .ok (.ifnonnull 8, 3) := by decide +kernel
theorem d6_7 : decode prog_64_method_10_code 7 = .ok (.ldc 59, 2) := by decide +kernel
theorem d6_9 : decode prog_64_method_10_code 9 = .ok (.goto 10, 3) := by decide +kernel
theorem d6_19 : decode prog_64_method_10_code 19 = .ok (.areturn, 1) := by decide +kernel
abbrev y5 : MethodName := ⟨"com/example/montaje/montaje/xml/XmlElement", "text", "()Ljava/lang/String;"⟩
abbrev y5b : ByteArray := prog_64_method_10_code
abbrev y5r : Option Jvm.ClassFile.FieldType := (Option.some (Jvm.ClassFile.FieldType.object "java/lang/String"))
theorem c5_text {Z a0} (hw : HW a0 Z) (hs : SF Z) {p1 : Addr} {f_p1_0 f_p1_1 f_p1_2 f_p1_3 f_p1_4 f_p1_5 f_p1_6 : Value} {w_p1 : Bool} {F : List Ent} (mp1 : (p1, w_p1, oXmlElement f_p1_0 f_p1_1 f_p1_2 f_p1_3 f_p1_4 f_p1_5 f_p1_6 .null) ∈ F) : Con Z EL y5 y5b 1 y5r (rmm 0 2 4 0) [(vr p1)] (F) (fun v D' => (∃ a1 a2 : Addr, v = some (vr a1) ∧ (a1, false, oString (vr a2) (vi 0)) :: (a2, false, ar "" .byte []) :: F = D')) := by
  refine Con.of (ls := #[rv p1]) (by decide +kernel) rfl ?_
  refine W.aloadN d6_0 rfl rfl ?_
  refine W.getf d6_1 (wq hw 62 rfl) Via.refl mp1 m7 ?_
  refine W.ifnonnullN d6_4 ?_
  refine W.ldcT 0 (vs := []) rfl d6_7 (wq hw 64 rfl) (wS hw) m0 tx_ (by decide) (by decide) (by decide) (fun a1 a2 => ?_)
  show W _ _ _ _ _ _ _ _ _ _ _ _ 9 _ [(vr a1)]
  refine W.goto 19 d6_9 (by decide) ?_
  exact W.areturn d6_19 rfl rfl rfl (by decide) ⟨a1, a2, rfl, rfl⟩
theorem pd__Ljava_lang_String_ : parseMethodDescriptor "()Ljava/lang/String;" = some ⟨[], some (.object "java/lang/String")⟩ := by decide +kernel
theorem d7_0 : decode jdk_42_method_55_code 0 = .ok (.aload_n 0, 1) := by decide +kernel
theorem d7_1 : decode jdk_42_method_55_code 1 = .ok (.getfield 9, 3) := by decide +kernel
theorem d7_4 : decode jdk_42_method_55_code 4 = .ok (.arraylength, 1) := by decide +kernel
theorem d7_5 : decode jdk_42_method_55_code 5 = .ok (.ifCond .ne 7, 3) := by decide +kernel
theorem d7_8 : decode jdk_42_method_55_code 8 = .ok (.iconst 1, 1) := by decide +kernel
theorem d7_9 : decode jdk_42_method_55_code 9 = .ok (.goto 4, 3) := by decide +kernel
theorem d7_13 : decode jdk_42_method_55_code 13 = .ok (.ireturn, 1) := by decide +kernel
abbrev y6 : MethodName := ⟨"java/lang/String", "isEmpty", "()Z"⟩
abbrev y6b : ByteArray := jdk_42_method_55_code
abbrev y6r : Option Jvm.ClassFile.FieldType := (Option.some Jvm.ClassFile.FieldType.boolean)
theorem c6_isEmpty {Z a0} (hw : HW a0 Z) (hs : SF Z) {p1 p2 : Addr} {f_p1_1 : Value} {w_p1 : Bool} {w_p2 : Bool} {ad_p2 : String} {F : List Ent} (mp1 : (p1, w_p1, oString (vr p2) f_p1_1) ∈ F) (mp2 : (p2, w_p2, ar ad_p2 .byte []) ∈ F) : Con Z EL y6 y6b 1 y6r (rmm 0 0 0 0) [(vr p1)] (F) (fun v D' => (v = some (vi 1) ∧ F = D')) := by
  refine Con.of (ls := #[rv p1]) (by decide +kernel) rfl ?_
  refine W.aloadN d7_0 rfl rfl ?_
  refine W.getf d7_1 (wq hw 70 rfl) Via.refl mp1 m0 ?_
  refine W.alen (0) d7_4 mp2 rfl ?_
  refine W.ifN d7_5 (n_ne (by decide)) ?_
  refine W.iconst (1) d7_8 (by decide) ?_
  refine W.goto 13 d7_9 (by decide) ?_
  exact W.ireturn d7_13 rfl (Or.inr (Or.inl rfl)) (nw_bool (by decide)) (by decide) ⟨rfl, rfl⟩
theorem pd__Z : parseMethodDescriptor "()Z" = some ⟨[], some .boolean⟩ := by decide +kernel
theorem d8_0 : decode jdk_42_method_54_code 0 = .ok (.aload_n 0, 1) := by decide +kernel
theorem d8_1 : decode jdk_42_method_54_code 1 = .ok (.getfield 9, 3) := by decide +kernel
theorem d8_4 : decode jdk_42_method_54_code 4 = .ok (.arraylength, 1) := by decide +kernel
theorem d8_5 : decode jdk_42_method_54_code 5 = .ok (.aload_n 0, 1) := by decide +kernel
theorem d8_6 : decode jdk_42_method_54_code 6 = .ok (.invokevirtual 335, 3) := by decide +kernel
theorem d9_0 : decode jdk_42_method_152_code 0 = .ok (.getstatic 38, 3) := by decide +kernel
theorem d9_3 : decode jdk_42_method_152_code 3 = .ok (.ifCond .eq 10, 3) := by decide +kernel
theorem d9_6 : decode jdk_42_method_152_code 6 = .ok (.aload_n 0, 1) := by decide +kernel
theorem d9_7 : decode jdk_42_method_152_code 7 = .ok (.getfield 15, 3) := by decide +kernel
theorem d9_10 : decode jdk_42_method_152_code 10 = .ok (.goto 4, 3) := by decide +kernel
theorem d9_14 : decode jdk_42_method_152_code 14 = .ok (.ireturn, 1) := by decide +kernel
abbrev y7 : MethodName := ⟨"java/lang/String", "coder", "()B"⟩
abbrev y7b : ByteArray := jdk_42_method_152_code
abbrev y7r : Option Jvm.ClassFile.FieldType := (Option.some Jvm.ClassFile.FieldType.byte)
theorem c8_coder {Z a0} (hw : HW a0 Z) (hs : SF Z) {p1 : Addr} {f_p1_0 : Value} {w_p1 : Bool} {F : List Ent} (mp1 : (p1, w_p1, oString f_p1_0 (vi 0)) ∈ F) : Con Z EL y7 y7b 1 y7r (rmm 0 0 0 0) [(vr p1)] (F) (fun v D' => (v = some (vi 0) ∧ F = D')) := by
  refine Con.of (ls := #[rv p1]) (by decide +kernel) rfl ?_
  refine W.gets d9_0 (wq hw 81 rfl) Via.refl hs.1 ?_
  refine W.ifN d9_3 (n_eq (by have := hs.2.1; have := q0; omega)) ?_
  refine W.aloadN d9_6 rfl rfl ?_
  refine W.getf d9_7 (wq hw 82 rfl) Via.refl mp1 m1 ?_
  refine W.goto 14 d9_10 (by decide) ?_
  exact W.ireturn d9_14 rfl (Or.inr (Or.inr (Or.inl rfl))) (nw_byte (by decide)) (by decide) ⟨rfl, rfl⟩
theorem pd__B : parseMethodDescriptor "()B" = some ⟨[], some .byte⟩ := by decide +kernel
theorem d8_9 : decode jdk_42_method_54_code 9 = .ok (.ishr, 1) := by decide +kernel
theorem d8_10 : decode jdk_42_method_54_code 10 = .ok (.ireturn, 1) := by decide +kernel
abbrev y8 : MethodName := ⟨"java/lang/String", "length", "()I"⟩
abbrev y8b : ByteArray := jdk_42_method_54_code
abbrev y8r : Option Jvm.ClassFile.FieldType := (Option.some Jvm.ClassFile.FieldType.int)
theorem c7_length {Z a0} (hw : HW a0 Z) (hs : SF Z) {p1 p2 : Addr} {w_p1 : Bool} {w_p2 : Bool} {ad_p2 : String} {F : List Ent} (mp1 : (p1, w_p1, oString (vr p2) (vi 0)) ∈ F) (mp2 : (p2, w_p2, ar ad_p2 .byte []) ∈ F) : Con Z EL y8 y8b 1 y8r (rmm 1 0 0 13) [(vr p1)] (F) (fun v D' => (v = some (vi 0) ∧ F = D')) := by
  refine Con.of (ls := #[rv p1]) (by decide +kernel) rfl ?_
  refine W.aloadN d8_0 rfl rfl ?_
  refine W.getf d8_1 (wq hw 70 rfl) Via.refl mp1 m0 ?_
  refine W.alen (0) d8_4 mp2 rfl ?_
  refine W.aloadN d8_5 rfl rfl ?_
  refine W.callV (as := []) 1 [(vi 0)] d8_6 (wq hw 76 rfl) (wq hw 77 rfl) (wq hw 79 rfl) (wq hw 79 rfl) (wq hw 78 rfl) (wq hw 5 rfl) (wq hw 80 rfl) (Hp.exa mp1) (c8_coder hw hs (mp1 := mp1)) (by decide) pd__B rfl rfl rfl rfl (by decide) (fun v D' h => ?_)
  obtain ⟨rfl, rfl⟩ := h
  show W _ _ _ _ _ _ _ _ _ _ _ _ 9 _ [(vi 0), (vi 0)]
  refine W.ishrK (0 : Int32) d8_9 (by decide) ?_
  exact W.ireturn d8_10 rfl (Or.inl rfl) rfl (by decide) ⟨rfl, rfl⟩
theorem pd__I : parseMethodDescriptor "()I" = some ⟨[], some .int⟩ := by decide +kernel
theorem d10_0 : decode method_2_code 0 = .ok (.iload_n 1, 1) := by decide +kernel
theorem d10_1 : decode method_2_code 1 = .ok (.iload_n 2, 1) := by decide +kernel
theorem d10_2 : decode method_2_code 2 = .ok (.if_icmp .lt 5, 3) := by decide +kernel
theorem d10_5 : decode method_2_code 5 = .ok (.iconst 1, 1) := by decide +kernel
theorem d10_6 : decode method_2_code 6 = .ok (.ireturn, 1) := by decide +kernel
abbrev y9 : MethodName := ⟨"com/example/montaje/montaje/xml/XmlElementTextPinLaw", "at", "(Ljava/lang/String;II[CII[CI)Z"⟩
abbrev y9b : ByteArray := method_2_code
abbrev y9r : Option Jvm.ClassFile.FieldType := (Option.some Jvm.ClassFile.FieldType.boolean)
theorem c9_at {Z a0} (hw : HW a0 Z) (hs : SF Z) {p1 p2 p3 : Addr} {x1 : Int32} (hx1 : 0 ≤ x1.toInt ∧ x1.toInt ≤ 127) {x2 : Int32} (hx2 : 0 ≤ x2.toInt ∧ x2.toInt ≤ 127) {x3 : Int32} (hx3 : 0 ≤ x3.toInt ∧ x3.toInt ≤ 7) {x4 : Int32} (hx4 : 0 ≤ x4.toInt ∧ x4.toInt ≤ 127) {x5 : Int32} (hx5 : 0 ≤ x5.toInt ∧ x5.toInt ≤ 7) (hr0 : x2.toInt ≤ x1.toInt) {F : List Ent} : Con Z EL y9 y9b 9 y9r (rmm 0 0 0 0) [(vr p1), (vi x1), (vi x2), (vr p2), (vi x3), (vi x4), (vr p3), (vi x5)] (F) (fun v D' => (v = some (vi 1) ∧ F = D')) := by
  refine Con.of (ls := #[rv p1, iv x1, iv x2, rv p2, iv x3, iv x4, rv p3, iv x5, uu]) (by decide +kernel) rfl ?_
  refine W.iloadN d10_0 rfl ?_
  refine W.iloadN d10_1 rfl ?_
  refine W.icmpN d10_2 (n_lt (by omega)) ?_
  refine W.iconst (1) d10_5 (by decide) ?_
  exact W.ireturn d10_6 rfl (Or.inr (Or.inl rfl)) (nw_bool (by decide)) (by decide) ⟨rfl, rfl⟩
theorem q4 : (4 : Int32).toInt = 4 := by decide
theorem pd_Ljava_lang_String_II_CII_CI_Z : parseMethodDescriptor "(Ljava/lang/String;II[CII[CI)Z" = some ⟨[(.object "java/lang/String"), .int, .int, (.array .char), .int, .int, (.array .char), .int], some .boolean⟩ := by decide +kernel
theorem q1 : (1 : Int32).toInt = 1 := by decide
theorem q3 : (3 : Int32).toInt = 3 := by decide
theorem q6 : (6 : Int32).toInt = 6 := by decide
theorem d11_0 : decode prog_64_method_12_code 0 = .ok (.aload_n 0, 1) := by decide +kernel
theorem d11_1 : decode prog_64_method_12_code 1 = .ok (.getfield 55, 3) := by decide +kernel
theorem d11_4 : decode prog_64_method_12_code 4 = .ok (.ifnonnull 15, 3) := by decide +kernel
theorem d11_7 : decode prog_64_method_12_code 7 = .ok (.aload_n 0, 1) := by decide +kernel
theorem d11_8 : decode prog_64_method_12_code 8 = .ok (.new 62, 3) := by decide +kernel
theorem laStringBuilder {Z a0} (hw : HW a0 Z) : LaidAll Z a0 "java/lang/StringBuilder" [("java/lang/AbstractStringBuilder", "value", "[B", .null), ("java/lang/AbstractStringBuilder", "coder", "B", (vi 0)), ("java/lang/AbstractStringBuilder", "count", "I", (vi 0))] := ⟨⟨Or.inl (wq hw 107 rfl), (.array .byte), by decide, rfl⟩, ⟨⟨Or.inl (wq hw 109 rfl), .byte, by decide, rfl⟩, ⟨⟨Or.inl (wq hw 127 rfl), .int, by decide, rfl⟩, trivial⟩⟩⟩
theorem d11_11 : decode prog_64_method_12_code 11 = .ok (.dup, 1) := by decide +kernel
theorem d11_12 : decode prog_64_method_12_code 12 = .ok (.iload_n 3, 1) := by decide +kernel
theorem d11_13 : decode prog_64_method_12_code 13 = .ok (.invokespecial 73, 3) := by decide +kernel
theorem d12_0 : decode jdk_67_method_2_code 0 = .ok (.aload_n 0, 1) := by decide +kernel
theorem d12_1 : decode jdk_67_method_2_code 1 = .ok (.iload_n 1, 1) := by decide +kernel
theorem d12_2 : decode jdk_67_method_2_code 2 = .ok (.invokespecial 1, 3) := by decide +kernel
theorem d13_0 : decode jdk_68_method_2_code 0 = .ok (.aload_n 0, 1) := by decide +kernel
theorem d13_1 : decode jdk_68_method_2_code 1 = .ok (.invokespecial 3, 3) := by decide +kernel
theorem d13_4 : decode jdk_68_method_2_code 4 = .ok (.getstatic 18, 3) := by decide +kernel
theorem d13_7 : decode jdk_68_method_2_code 7 = .ok (.ifCond .eq 18, 3) := by decide +kernel
theorem d13_10 : decode jdk_68_method_2_code 10 = .ok (.aload_n 0, 1) := by decide +kernel
theorem d13_11 : decode jdk_68_method_2_code 11 = .ok (.iload_n 1, 1) := by decide +kernel
theorem d13_12 : decode jdk_68_method_2_code 12 = .ok (.newarray .byte, 2) := by decide +kernel
theorem q31 : (31 : Int32).toInt = 31 := by decide
theorem d13_14 : decode jdk_68_method_2_code 14 = .ok (.putfield 15, 3) := by decide +kernel
theorem pf_B : parseFieldDescriptor "[B" = some (.array .byte) := by decide
abbrev oStringBuilder (f0 f1 f2 : Value) : Desc := .inl ("java/lang/StringBuilder", [("java/lang/AbstractStringBuilder", "value", "[B", f0), ("java/lang/AbstractStringBuilder", "coder", "B", f1), ("java/lang/AbstractStringBuilder", "count", "I", f2)])
theorem d13_17 : decode jdk_68_method_2_code 17 = .ok (.aload_n 0, 1) := by decide +kernel
theorem d13_18 : decode jdk_68_method_2_code 18 = .ok (.iconst 0, 1) := by decide +kernel
theorem d13_19 : decode jdk_68_method_2_code 19 = .ok (.putfield 22, 3) := by decide +kernel
theorem pfB : parseFieldDescriptor "B" = some .byte := by decide
theorem d13_22 : decode jdk_68_method_2_code 22 = .ok (.goto 16, 3) := by decide +kernel
theorem d13_38 : decode jdk_68_method_2_code 38 = .ok (.return_, 1) := by decide +kernel
abbrev y10 : MethodName := ⟨"java/lang/AbstractStringBuilder", "<init>", "(I)V"⟩
abbrev y10b : ByteArray := jdk_68_method_2_code
abbrev y10r : Option Jvm.ClassFile.FieldType := (Option.none : Option Jvm.ClassFile.FieldType)
theorem c12_init {Z a0} (hw : HW a0 Z) (hs : SF Z) {p1 : Addr} {x1 : Int32} (hx1 : 0 ≤ x1.toInt ∧ x1.toInt ≤ 7) {f_p1_2 : Value} {F : List Ent} : Con Z EL y10 y10b 2 y10r (rmm 1 1 31 12) [(vr p1), (vi x1)] ((p1, true, oStringBuilder .null (vi 0) f_p1_2) :: F) (fun v D' => (∃ a1 : Addr, (((List.replicate x1.toInt.toNat (0 : Int32))).length : Int) = x1.toInt ∧ v = none ∧ (a1, true, ar "[B" .byte (lm (List.replicate x1.toInt.toNat (0 : Int32)))) :: (p1, true, oStringBuilder (vr a1) (vi 0) f_p1_2) :: F = D')) := by
  refine Con.of (ls := #[rv p1, iv x1]) (by decide +kernel) rfl ?_
  refine W.aloadN d13_0 rfl rfl ?_
  refine W.initO 0 d13_1 (wq hw 104 rfl) (wq hw 17 rfl) (wq hw 18 rfl) rfl rfl (by decide) ?_
  refine W.gets d13_4 (wq hw 105 rfl) Via.refl hs.1 ?_
  refine W.ifN d13_7 (n_eq (by have := hs.2.1; have := q0; omega)) ?_
  refine W.aloadN d13_10 rfl rfl ?_
  refine W.iloadN d13_11 rfl ?_
  have hl2 := len_rep (z := x1) (by have := q0; omega)
  refine W.newarrB 31 d13_12 (wq hw 7 rfl) (by have := q0; have := q31; omega) (by decide) (by decide) (fun a1 => ?_)
  show W _ _ _ _ _ _ _ _ _ _ _ _ 14 _ [(vr a1), (vr p1)]
  refine W.putf (D' := (a1, true, ar "[B" .byte (lm (List.replicate x1.toInt.toNat (0 : Int32)))) :: (p1, true, oStringBuilder (vr a1) (vi 0) f_p1_2) :: F) 1 0 d13_14 (wq hw 106 rfl) Via.refl rfl rfl (Or.inl (wq hw 107 rfl)) (wq hw 93 rfl) pf_B rfl rfl rfl ?_
  refine W.aloadN d13_17 rfl rfl ?_
  refine W.iconst (0) d13_18 (by decide) ?_
  refine W.putf (D' := (a1, true, ar "[B" .byte (lm (List.replicate x1.toInt.toNat (0 : Int32)))) :: (p1, true, oStringBuilder (vr a1) (vi 0) f_p1_2) :: F) 1 1 d13_19 (wq hw 108 rfl) Via.refl rfl rfl (Or.inl (wq hw 109 rfl)) (wq hw 93 rfl) pfB (nw_byte (by decide)) (ft_byte (by decide)) rfl ?_
  refine W.goto 38 d13_22 (by decide) ?_
  exact W.return_ d13_38 rfl (by decide) ⟨a1, hl2, rfl, rfl⟩
theorem pd_I_V : parseMethodDescriptor "(I)V" = some ⟨[.int], none⟩ := by decide +kernel
theorem d12_5 : decode jdk_67_method_2_code 5 = .ok (.return_, 1) := by decide +kernel
abbrev y11 : MethodName := ⟨"java/lang/StringBuilder", "<init>", "(I)V"⟩
abbrev y11b : ByteArray := jdk_67_method_2_code
abbrev y11r : Option Jvm.ClassFile.FieldType := (Option.none : Option Jvm.ClassFile.FieldType)
theorem c11_init {Z a0} (hw : HW a0 Z) (hs : SF Z) {p1 : Addr} {x1 : Int32} (hx1 : 0 ≤ x1.toInt ∧ x1.toInt ≤ 7) {f_p1_2 : Value} {F : List Ent} : Con Z EL y11 y11b 2 y11r (rmm 2 1 31 25) [(vr p1), (vi x1)] ((p1, true, oStringBuilder .null (vi 0) f_p1_2) :: F) (fun v D' => (∃ a1 : Addr, (((List.replicate x1.toInt.toNat (0 : Int32))).length : Int) = x1.toInt ∧ v = none ∧ (a1, true, ar "[B" .byte (lm (List.replicate x1.toInt.toNat (0 : Int32)))) :: (p1, true, oStringBuilder (vr a1) (vi 0) f_p1_2) :: F = D')) := by
  refine Con.of (ls := #[rv p1, iv x1]) (by decide +kernel) rfl ?_
  refine W.aloadN d12_0 rfl rfl ?_
  refine W.iloadN d12_1 rfl ?_
  refine W.callI (as := [(vi x1)]) 0 [] d12_2 rfl (wq hw 98 rfl) (wq hw 99 rfl) (wq hw 102 rfl) (wq hw 103 rfl) (c12_init hw hs (hx1 := hx1)) (by decide) pd_I_V rfl rfl rfl rfl (by decide) (fun v D' h => ?_)
  obtain ⟨a1, hl2, rfl, rfl⟩ := h
  show W _ _ _ _ _ _ _ _ _ _ _ _ 5 _ []
  exact W.return_ d12_5 rfl (by decide) ⟨a1, hl2, rfl, rfl⟩
theorem d11_16 : decode prog_64_method_12_code 16 = .ok (.putfield 55, 3) := by decide +kernel
theorem pfLjava_lang_StringBuilder_ : parseFieldDescriptor "Ljava/lang/StringBuilder;" = some (.object "java/lang/StringBuilder") := by decide
theorem d11_19 : decode prog_64_method_12_code 19 = .ok (.aload_n 0, 1) := by decide +kernel
theorem d11_20 : decode prog_64_method_12_code 20 = .ok (.getfield 55, 3) := by decide +kernel
theorem d11_23 : decode prog_64_method_12_code 23 = .ok (.aload_n 1, 1) := by decide +kernel
theorem d11_24 : decode prog_64_method_12_code 24 = .ok (.iload_n 2, 1) := by decide +kernel
theorem d11_25 : decode prog_64_method_12_code 25 = .ok (.iload_n 3, 1) := by decide +kernel
theorem d11_26 : decode prog_64_method_12_code 26 = .ok (.invokevirtual 76, 3) := by decide +kernel
theorem d14_0 : decode jdk_67_method_12_code 0 = .ok (.aload_n 0, 1) := by decide +kernel
theorem d14_1 : decode jdk_67_method_12_code 1 = .ok (.aload_n 1, 1) := by decide +kernel
theorem d14_2 : decode jdk_67_method_12_code 2 = .ok (.iload_n 2, 1) := by decide +kernel
theorem d14_3 : decode jdk_67_method_12_code 3 = .ok (.iload_n 3, 1) := by decide +kernel
theorem d14_4 : decode jdk_67_method_12_code 4 = .ok (.invokespecial 44, 3) := by decide +kernel
theorem d15_0 : decode jdk_68_method_29_code 0 = .ok (.iload_n 2, 1) := by decide +kernel
theorem d15_1 : decode jdk_68_method_29_code 1 = .ok (.iload_n 3, 1) := by decide +kernel
theorem d15_2 : decode jdk_68_method_29_code 2 = .ok (.iadd, 1) := by decide +kernel
theorem d15_3 : decode jdk_68_method_29_code 3 = .ok (.istore 4, 2) := by decide +kernel
theorem d15_5 : decode jdk_68_method_29_code 5 = .ok (.iload_n 2, 1) := by decide +kernel
theorem d15_6 : decode jdk_68_method_29_code 6 = .ok (.iload 4, 2) := by decide +kernel
theorem d15_8 : decode jdk_68_method_29_code 8 = .ok (.aload_n 1, 1) := by decide +kernel
theorem d15_9 : decode jdk_68_method_29_code 9 = .ok (.arraylength, 1) := by decide +kernel
theorem d15_10 : decode jdk_68_method_29_code 10 = .ok (.getstatic 183, 3) := by decide +kernel
theorem d15_13 : decode jdk_68_method_29_code 13 = .ok (.invokestatic 161, 3) := by decide +kernel
theorem d16_0 : decode jdk_41_method_12_code 0 = .ok (.iload_n 0, 1) := by decide +kernel
theorem d16_1 : decode jdk_41_method_12_code 1 = .ok (.ifCond .lt 13, 3) := by decide +kernel
theorem d16_4 : decode jdk_41_method_12_code 4 = .ok (.iload_n 0, 1) := by decide +kernel
theorem d16_5 : decode jdk_41_method_12_code 5 = .ok (.iload_n 1, 1) := by decide +kernel
theorem d16_6 : decode jdk_41_method_12_code 6 = .ok (.if_icmp .gt 8, 3) := by decide +kernel
theorem d16_9 : decode jdk_41_method_12_code 9 = .ok (.iload_n 1, 1) := by decide +kernel
theorem d16_10 : decode jdk_41_method_12_code 10 = .ok (.iload_n 2, 1) := by decide +kernel
theorem d16_11 : decode jdk_41_method_12_code 11 = .ok (.if_icmp .le 11, 3) := by decide +kernel
theorem d16_22 : decode jdk_41_method_12_code 22 = .ok (.iload_n 0, 1) := by decide +kernel
theorem d16_23 : decode jdk_41_method_12_code 23 = .ok (.ireturn, 1) := by decide +kernel
abbrev y12 : MethodName := ⟨"jdk/internal/util/Preconditions", "checkFromToIndex", "(IIILjava/util/function/BiFunction;)I"⟩
abbrev y12b : ByteArray := jdk_41_method_12_code
abbrev y12r : Option Jvm.ClassFile.FieldType := (Option.some Jvm.ClassFile.FieldType.int)
theorem c15_checkFromToIndex {Z a0} (hw : HW a0 Z) (hs : SF Z) {x1 : Int32} (hx1 : 0 ≤ x1.toInt ∧ x1.toInt ≤ 7) {x2 : Int32} (hx2 : 0 ≤ x2.toInt ∧ x2.toInt ≤ 7) {x3 : Int32} (hx3 : 0 ≤ x3.toInt ∧ x3.toInt ≤ 127) (hr0 : (0 : Int32).toInt ≤ x1.toInt) (hr1 : x1.toInt ≤ x2.toInt) (hr2 : x2.toInt ≤ x3.toInt) {F : List Ent} : Con Z EL y12 y12b 4 y12r (rmm 0 0 0 0) [(vi x1), (vi x2), (vi x3), (ifv Z)] (F) (fun v D' => (v = some (vi x1) ∧ F = D')) := by
  refine Con.of (ls := #[iv x1, iv x2, iv x3, .val (ifv Z)]) (by decide +kernel) (hent_of (ld1 rfl (ld1 rfl (ld1 rfl (ld1 (XT.cat1 hs.2.2.2.2.1) ld0)))) rfl) ?_
  refine W.iloadN d16_0 rfl ?_
  refine W.ifN d16_1 (n_lt (by have := q0; omega)) ?_
  refine W.iloadN d16_4 rfl ?_
  refine W.iloadN d16_5 rfl ?_
  refine W.icmpN d16_6 (n_gt (by have := q0; omega)) ?_
  refine W.iloadN d16_9 rfl ?_
  refine W.iloadN d16_10 rfl ?_
  refine W.icmpY 22 d16_11 (y_le (by have := q0; omega)) (by decide) ?_
  refine W.iloadN d16_22 rfl ?_
  exact W.ireturn d16_23 rfl (Or.inl rfl) rfl (by decide) ⟨rfl, rfl⟩
theorem pd_IIILjava_util_function_BiFunction__I : parseMethodDescriptor "(IIILjava/util/function/BiFunction;)I" = some ⟨[.int, .int, .int, (.object "java/util/function/BiFunction")], some .int⟩ := by decide +kernel
theorem d15_16 : decode jdk_68_method_29_code 16 = .ok (.pop, 1) := by decide +kernel
theorem d15_17 : decode jdk_68_method_29_code 17 = .ok (.aload_n 0, 1) := by decide +kernel
theorem d15_18 : decode jdk_68_method_29_code 18 = .ok (.aload_n 0, 1) := by decide +kernel
theorem d15_19 : decode jdk_68_method_29_code 19 = .ok (.getfield 79, 3) := by decide +kernel
theorem d15_22 : decode jdk_68_method_29_code 22 = .ok (.iload_n 3, 1) := by decide +kernel
theorem d15_23 : decode jdk_68_method_29_code 23 = .ok (.iadd, 1) := by decide +kernel
theorem d15_24 : decode jdk_68_method_29_code 24 = .ok (.invokevirtual 100, 3) := by decide +kernel
theorem d17_0 : decode jdk_68_method_9_code 0 = .ok (.aload_n 0, 1) := by decide +kernel
theorem d17_1 : decode jdk_68_method_9_code 1 = .ok (.getfield 15, 3) := by decide +kernel
theorem d17_4 : decode jdk_68_method_9_code 4 = .ok (.arraylength, 1) := by decide +kernel
theorem d17_5 : decode jdk_68_method_9_code 5 = .ok (.aload_n 0, 1) := by decide +kernel
theorem d17_6 : decode jdk_68_method_9_code 6 = .ok (.getfield 22, 3) := by decide +kernel
theorem d17_9 : decode jdk_68_method_9_code 9 = .ok (.ishr, 1) := by decide +kernel
theorem d17_10 : decode jdk_68_method_9_code 10 = .ok (.istore_n 2, 1) := by decide +kernel
theorem d17_11 : decode jdk_68_method_9_code 11 = .ok (.iload_n 1, 1) := by decide +kernel
theorem d17_12 : decode jdk_68_method_9_code 12 = .ok (.iload_n 2, 1) := by decide +kernel
theorem d17_13 : decode jdk_68_method_9_code 13 = .ok (.isub, 1) := by decide +kernel
theorem d17_14 : decode jdk_68_method_9_code 14 = .ok (.ifCond .le 24, 3) := by decide +kernel
theorem d17_38 : decode jdk_68_method_9_code 38 = .ok (.return_, 1) := by decide +kernel
theorem d17_17 : decode jdk_68_method_9_code 17 = .ok (.aload_n 0, 1) := by decide +kernel
theorem d17_18 : decode jdk_68_method_9_code 18 = .ok (.aload_n 0, 1) := by decide +kernel
theorem d17_19 : decode jdk_68_method_9_code 19 = .ok (.getfield 15, 3) := by decide +kernel
theorem d17_22 : decode jdk_68_method_9_code 22 = .ok (.aload_n 0, 1) := by decide +kernel
theorem d17_23 : decode jdk_68_method_9_code 23 = .ok (.iload_n 1, 1) := by decide +kernel
theorem d17_24 : decode jdk_68_method_9_code 24 = .ok (.invokevirtual 104, 3) := by decide +kernel
theorem d21_0 : decode jdk_68_method_10_code 0 = .ok (.aload_n 0, 1) := by decide +kernel
theorem d21_1 : decode jdk_68_method_10_code 1 = .ok (.getfield 15, 3) := by decide +kernel
theorem d21_4 : decode jdk_68_method_10_code 4 = .ok (.arraylength, 1) := by decide +kernel
theorem d21_5 : decode jdk_68_method_10_code 5 = .ok (.istore_n 2, 1) := by decide +kernel
theorem d21_6 : decode jdk_68_method_10_code 6 = .ok (.iload_n 1, 1) := by decide +kernel
theorem d21_7 : decode jdk_68_method_10_code 7 = .ok (.aload_n 0, 1) := by decide +kernel
theorem d21_8 : decode jdk_68_method_10_code 8 = .ok (.getfield 22, 3) := by decide +kernel
theorem d21_11 : decode jdk_68_method_10_code 11 = .ok (.ishl, 1) := by decide +kernel
theorem d21_12 : decode jdk_68_method_10_code 12 = .ok (.istore_n 3, 1) := by decide +kernel
theorem d21_13 : decode jdk_68_method_10_code 13 = .ok (.iload_n 3, 1) := by decide +kernel
theorem d21_14 : decode jdk_68_method_10_code 14 = .ok (.iload_n 2, 1) := by decide +kernel
theorem d21_15 : decode jdk_68_method_10_code 15 = .ok (.isub, 1) := by decide +kernel
theorem d21_16 : decode jdk_68_method_10_code 16 = .ok (.istore 4, 2) := by decide +kernel
theorem d21_18 : decode jdk_68_method_10_code 18 = .ok (.iload_n 2, 1) := by decide +kernel
theorem d21_19 : decode jdk_68_method_10_code 19 = .ok (.iload 4, 2) := by decide +kernel
theorem d21_21 : decode jdk_68_method_10_code 21 = .ok (.iload_n 2, 1) := by decide +kernel
theorem d21_22 : decode jdk_68_method_10_code 22 = .ok (.iconst 2, 1) := by decide +kernel
theorem d21_23 : decode jdk_68_method_10_code 23 = .ok (.aload_n 0, 1) := by decide +kernel
theorem d21_24 : decode jdk_68_method_10_code 24 = .ok (.getfield 22, 3) := by decide +kernel
theorem d21_27 : decode jdk_68_method_10_code 27 = .ok (.ishl, 1) := by decide +kernel
theorem d21_28 : decode jdk_68_method_10_code 28 = .ok (.iadd, 1) := by decide +kernel
theorem d21_29 : decode jdk_68_method_10_code 29 = .ok (.invokestatic 114, 3) := by decide +kernel
theorem d22_0 : decode jdk_48_method_27_code 0 = .ok (.iload_n 0, 1) := by decide +kernel
theorem d22_1 : decode jdk_48_method_27_code 1 = .ok (.iload_n 1, 1) := by decide +kernel
theorem d22_2 : decode jdk_48_method_27_code 2 = .ok (.iload_n 2, 1) := by decide +kernel
theorem d22_3 : decode jdk_48_method_27_code 3 = .ok (.invokestatic 194, 3) := by decide +kernel
theorem d23_0 : decode jdk_29_method_65_code 0 = .ok (.iload_n 0, 1) := by decide +kernel
theorem d23_1 : decode jdk_29_method_65_code 1 = .ok (.iload_n 1, 1) := by decide +kernel
theorem d23_2 : decode jdk_29_method_65_code 2 = .ok (.if_icmp .lt 7, 3) := by decide +kernel
theorem d23_9 : decode jdk_29_method_65_code 9 = .ok (.iload_n 1, 1) := by decide +kernel
theorem d23_10 : decode jdk_29_method_65_code 10 = .ok (.ireturn, 1) := by decide +kernel
theorem d23_5 : decode jdk_29_method_65_code 5 = .ok (.iload_n 0, 1) := by decide +kernel
theorem d23_6 : decode jdk_29_method_65_code 6 = .ok (.goto 4, 3) := by decide +kernel
abbrev y13 : MethodName := ⟨"java/lang/Math", "max", "(II)I"⟩
abbrev y13b : ByteArray := jdk_29_method_65_code
abbrev y13r : Option Jvm.ClassFile.FieldType := (Option.some Jvm.ClassFile.FieldType.int)
theorem c19_max {Z a0} (hw : HW a0 Z) (hs : SF Z) {x1 : Int32} (hx1 : 0 ≤ x1.toInt ∧ x1.toInt ≤ 15) {x2 : Int32} (hx2 : 0 ≤ x2.toInt ∧ x2.toInt ≤ 7) {F : List Ent} : Con Z EL y13 y13b 2 y13r (rmm 0 0 0 0) [(vi x1), (vi (x2 + (2 : Int32)))] (F) (fun v D' => (Cd .lt x1 (x2 + (2 : Int32)) ∧ v = some (vi (x2 + (2 : Int32))) ∧ F = D') ∨ (¬ Cd .lt x1 (x2 + (2 : Int32)) ∧ v = some (vi x1) ∧ F = D')) := by
  refine Con.of (ls := #[iv x1, iv (x2 + (2 : Int32))]) (by decide +kernel) rfl ?_
  refine W.iloadN d23_0 rfl ?_
  refine W.iloadN d23_1 rfl ?_
  refine W.icmp 9 d23_2 (by decide) (fun h1 => ?_) (fun h1 => ?_)
  ·
   have ih1 := t_lt h1
   refine W.iloadN d23_9 rfl ?_
   exact W.ireturn d23_10 rfl (Or.inl rfl) rfl (by decide) (Or.inl ⟨h1, rfl, rfl⟩)
  ·
   have ih1 := f_lt h1
   refine W.iloadN d23_5 rfl ?_
   refine W.goto 10 d23_6 (by decide) ?_
   exact W.ireturn d23_10 rfl (Or.inl rfl) rfl (by decide) (Or.inr ⟨h1, rfl, rfl⟩)
theorem pd_II_I : parseMethodDescriptor "(II)I" = some ⟨[.int, .int], some .int⟩ := by decide +kernel
theorem d22_6 : decode jdk_48_method_27_code 6 = .ok (.iadd, 1) := by decide +kernel
theorem d22_7 : decode jdk_48_method_27_code 7 = .ok (.istore_n 3, 1) := by decide +kernel
theorem d22_8 : decode jdk_48_method_27_code 8 = .ok (.iconst 0, 1) := by decide +kernel
theorem d22_9 : decode jdk_48_method_27_code 9 = .ok (.iload_n 3, 1) := by decide +kernel
theorem d22_10 : decode jdk_48_method_27_code 10 = .ok (.if_icmp .ge 11, 3) := by decide +kernel
theorem d22_13 : decode jdk_48_method_27_code 13 = .ok (.iload_n 3, 1) := by decide +kernel
theorem d22_14 : decode jdk_48_method_27_code 14 = .ok (.ldc 200, 2) := by decide +kernel
theorem d22_16 : decode jdk_48_method_27_code 16 = .ok (.if_icmp .gt 5, 3) := by decide +kernel
theorem q2147483639 : (2147483639 : Int32).toInt = 2147483639 := by decide
theorem d22_19 : decode jdk_48_method_27_code 19 = .ok (.iload_n 3, 1) := by decide +kernel
theorem d22_20 : decode jdk_48_method_27_code 20 = .ok (.ireturn, 1) := by decide +kernel
abbrev y14 : MethodName := ⟨"jdk/internal/util/ArraysSupport", "newLength", "(III)I"⟩
abbrev y14b : ByteArray := jdk_48_method_27_code
abbrev y14r : Option Jvm.ClassFile.FieldType := (Option.some Jvm.ClassFile.FieldType.int)
theorem c18_newLength {Z a0} (hw : HW a0 Z) (hs : SF Z) {x1 : Int32} (hx1 : 0 ≤ x1.toInt ∧ x1.toInt ≤ 7) {x2 : Int32} (hx2 : 0 ≤ x2.toInt ∧ x2.toInt ≤ 15) {F : List Ent} : Con Z EL y14 y14b 4 y14r (rmm 1 0 0 14) [(vi x1), (vi x2), (vi (x1 + (2 : Int32)))] (F) (fun v D' => (Cd .lt x2 (x1 + (2 : Int32)) ∧ v = some (vi (x1 + (x1 + (2 : Int32)))) ∧ F = D') ∨ (¬ Cd .lt x2 (x1 + (2 : Int32)) ∧ v = some (vi (x1 + x2)) ∧ F = D')) := by
  refine Con.of (ls := #[iv x1, iv x2, iv (x1 + (2 : Int32)), uu]) (by decide +kernel) rfl ?_
  refine W.iloadN d22_0 rfl ?_
  refine W.iloadN d22_1 rfl ?_
  refine W.iloadN d22_2 rfl ?_
  refine W.callS (as := [(vi x2), (vi (x1 + (2 : Int32)))]) 1 [(vi x1)] d22_3 (wq hw 156 rfl) (wq hw 157 rfl) (wq hw 158 rfl) (wq hw 159 rfl) (c19_max hw hs (hx1 := hx2) (hx2 := hx1)) (by decide) pd_II_I rfl rfl rfl rfl (by decide) (fun v D' h => ?_)
  rcases h with ⟨h1, rfl, rfl⟩ | ⟨h2, rfl, rfl⟩
  ·
   have ih1 := t_lt h1
   show W _ _ _ _ _ _ _ _ _ _ _ _ 6 _ [(vi (x1 + (2 : Int32))), (vi x1)]
   refine W.iadd d22_6 ?_
   refine W.istoreN (ls' := #[iv x1, iv x2, iv (x1 + (2 : Int32)), iv (x1 + (x1 + (2 : Int32)))]) d22_7 rfl ?_
   refine W.iconst (0) d22_8 (by decide) ?_
   refine W.iloadN d22_9 rfl ?_
   refine W.icmpN d22_10 (n_ge (by have := q0; have := q2; have := a_add x1 (2 : Int32); have := a_add x1 (x1 + (2 : Int32)); omega)) ?_
   refine W.iloadN d22_13 rfl ?_
   refine W.ldcI d22_14 (wq hw 160 rfl) ?_
   refine W.icmpN d22_16 (n_gt (by have := q2; have := a_add x1 (2 : Int32); have := a_add x1 (x1 + (2 : Int32)); have := q2147483639; omega)) ?_
   refine W.iloadN d22_19 rfl ?_
   exact W.ireturn d22_20 rfl (Or.inl rfl) rfl (by decide) (Or.inl ⟨h1, rfl, rfl⟩)
  ·
   have ih2 := f_lt h2
   show W _ _ _ _ _ _ _ _ _ _ _ _ 6 _ [(vi x2), (vi x1)]
   refine W.iadd d22_6 ?_
   refine W.istoreN (ls' := #[iv x1, iv x2, iv (x1 + (2 : Int32)), iv (x1 + x2)]) d22_7 rfl ?_
   refine W.iconst (0) d22_8 (by decide) ?_
   refine W.iloadN d22_9 rfl ?_
   refine W.icmpN d22_10 (n_ge (by have := q0; have := a_add x1 x2; have := q2; have := a_add x1 (2 : Int32); omega)) ?_
   refine W.iloadN d22_13 rfl ?_
   refine W.ldcI d22_14 (wq hw 160 rfl) ?_
   refine W.icmpN d22_16 (n_gt (by have := a_add x1 x2; have := q2147483639; have := q2; have := a_add x1 (2 : Int32); omega)) ?_
   refine W.iloadN d22_19 rfl ?_
   exact W.ireturn d22_20 rfl (Or.inl rfl) rfl (by decide) (Or.inr ⟨h2, rfl, rfl⟩)
theorem pd_III_I : parseMethodDescriptor "(III)I" = some ⟨[.int, .int, .int], some .int⟩ := by decide +kernel
theorem d21_32 : decode jdk_68_method_10_code 32 = .ok (.istore 5, 2) := by decide +kernel
theorem d21_34 : decode jdk_68_method_10_code 34 = .ok (.iload 5, 2) := by decide +kernel
theorem d21_36 : decode jdk_68_method_10_code 36 = .ok (.ldc 39, 2) := by decide +kernel
theorem d21_38 : decode jdk_68_method_10_code 38 = .ok (.if_icmp .ne 13, 3) := by decide +kernel
theorem q2147483647 : (2147483647 : Int32).toInt = 2147483647 := by decide
theorem d21_51 : decode jdk_68_method_10_code 51 = .ok (.iload 5, 2) := by decide +kernel
theorem d21_53 : decode jdk_68_method_10_code 53 = .ok (.aload_n 0, 1) := by decide +kernel
theorem d21_54 : decode jdk_68_method_10_code 54 = .ok (.getfield 22, 3) := by decide +kernel
theorem d21_57 : decode jdk_68_method_10_code 57 = .ok (.ishr, 1) := by decide +kernel
theorem d21_58 : decode jdk_68_method_10_code 58 = .ok (.ireturn, 1) := by decide +kernel
abbrev y15 : MethodName := ⟨"java/lang/AbstractStringBuilder", "newCapacity", "(I)I"⟩
abbrev y15b : ByteArray := jdk_68_method_10_code
abbrev y15r : Option Jvm.ClassFile.FieldType := (Option.some Jvm.ClassFile.FieldType.int)
theorem c17_newCapacity {Z a0} (hw : HW a0 Z) (hs : SF Z) {p1 p2 : Addr} {x1 : Int32} (hx1 : 0 ≤ x1.toInt ∧ x1.toInt ≤ 15) {x3 : Int32} (hx3 : 0 ≤ x3.toInt ∧ x3.toInt ≤ 7) {l1 : List Int32} (hl_l1 : (l1.length : Int) = x3.toInt) (hr0 : x3.toInt < x1.toInt) {f_p1_2 : Value} {w_p1 : Bool} {w_p2 : Bool} {ad_p2 : String} {F : List Ent} (mp1 : (p1, w_p1, oStringBuilder (vr p2) (vi 0) f_p1_2) ∈ F) (mp2 : (p2, w_p2, ar ad_p2 .byte (lm l1)) ∈ F) : Con Z EL y15 y15b 6 y15r (rmm 2 0 0 29) [(vr p1), (vi x1)] (F) (fun v D' => (Cd .lt (x1 - x3) (x3 + (2 : Int32)) ∧ v = some (vi (x3 + (x3 + (2 : Int32)))) ∧ F = D') ∨ (¬ Cd .lt (x1 - x3) (x3 + (2 : Int32)) ∧ v = some (vi (x3 + (x1 - x3))) ∧ F = D')) := by
  refine Con.of (ls := #[rv p1, iv x1, uu, uu, uu, uu]) (by decide +kernel) rfl ?_
  refine W.aloadN d21_0 rfl rfl ?_
  refine W.getf d21_1 (wq hw 106 rfl) Via.refl mp1 m0 ?_
  refine W.alenS (l := l1) (z := x3) d21_4 mp2 hl_l1 ?_
  refine W.istoreN (ls' := #[rv p1, iv x1, iv x3, uu, uu, uu]) d21_5 rfl ?_
  refine W.iloadN d21_6 rfl ?_
  refine W.aloadN d21_7 rfl rfl ?_
  refine W.getf d21_8 (wq hw 108 rfl) Via.refl mp1 m1 ?_
  refine W.ishlK x1 d21_11 (z_shl0 x1) ?_
  refine W.istoreN (ls' := #[rv p1, iv x1, iv x3, iv x1, uu, uu]) d21_12 rfl ?_
  refine W.iloadN d21_13 rfl ?_
  refine W.iloadN d21_14 rfl ?_
  refine W.isub d21_15 ?_
  refine W.istore (ls' := #[rv p1, iv x1, iv x3, iv x1, iv (x1 - x3), uu]) d21_16 rfl ?_
  refine W.iloadN d21_18 rfl ?_
  refine W.iload d21_19 rfl ?_
  refine W.iloadN d21_21 rfl ?_
  refine W.iconst (2) d21_22 (by decide) ?_
  refine W.aloadN d21_23 rfl rfl ?_
  refine W.getf d21_24 (wq hw 108 rfl) Via.refl mp1 m1 ?_
  refine W.ishlK (2 : Int32) d21_27 (by decide) ?_
  refine W.iadd d21_28 ?_
  refine W.callS (as := [(vi x3), (vi (x1 - x3)), (vi (x3 + (2 : Int32)))]) 0 [] d21_29 (wq hw 152 rfl) (wq hw 153 rfl) (wq hw 154 rfl) (wq hw 155 rfl) (c18_newLength hw hs (hx1 := hx3) (hx2 := (by have := a_sub x1 x3; omega))) (by decide) pd_III_I rfl rfl rfl rfl (by decide) (fun v D' h => ?_)
  rcases h with ⟨h1, rfl, rfl⟩ | ⟨h2, rfl, rfl⟩
  ·
   have ih1 := t_lt h1
   show W _ _ _ _ _ _ _ _ _ _ _ _ 32 _ [(vi (x3 + (x3 + (2 : Int32))))]
   refine W.istore (ls' := #[rv p1, iv x1, iv x3, iv x1, iv (x1 - x3), iv (x3 + (x3 + (2 : Int32)))]) d21_32 rfl ?_
   refine W.iload d21_34 rfl ?_
   refine W.ldcI d21_36 (wq hw 161 rfl) ?_
   refine W.icmpY 51 d21_38 (y_ne (by have := q2; have := a_add x3 (2 : Int32); have := a_add x3 (x3 + (2 : Int32)); have := q2147483647; have := a_sub x1 x3; omega)) (by decide) ?_
   refine W.iload d21_51 rfl ?_
   refine W.aloadN d21_53 rfl rfl ?_
   refine W.getf d21_54 (wq hw 108 rfl) Via.refl mp1 m1 ?_
   refine W.ishrK (x3 + (x3 + (2 : Int32))) d21_57 (z_shr0 (x3 + (x3 + (2 : Int32)))) ?_
   exact W.ireturn d21_58 rfl (Or.inl rfl) rfl (by decide) (Or.inl ⟨h1, rfl, rfl⟩)
  ·
   have ih2 := f_lt h2
   show W _ _ _ _ _ _ _ _ _ _ _ _ 32 _ [(vi (x3 + (x1 - x3)))]
   refine W.istore (ls' := #[rv p1, iv x1, iv x3, iv x1, iv (x1 - x3), iv (x3 + (x1 - x3))]) d21_32 rfl ?_
   refine W.iload d21_34 rfl ?_
   refine W.ldcI d21_36 (wq hw 161 rfl) ?_
   refine W.icmpY 51 d21_38 (y_ne (by have := a_sub x1 x3; have := a_add x3 (x1 - x3); have := q2147483647; have := q2; have := a_add x3 (2 : Int32); omega)) (by decide) ?_
   refine W.iload d21_51 rfl ?_
   refine W.aloadN d21_53 rfl rfl ?_
   refine W.getf d21_54 (wq hw 108 rfl) Via.refl mp1 m1 ?_
   refine W.ishrK (x3 + (x1 - x3)) d21_57 (z_shr0 (x3 + (x1 - x3))) ?_
   exact W.ireturn d21_58 rfl (Or.inl rfl) rfl (by decide) (Or.inr ⟨h2, rfl, rfl⟩)
theorem pd_I_I : parseMethodDescriptor "(I)I" = some ⟨[.int], some .int⟩ := by decide +kernel
theorem d17_27 : decode jdk_68_method_9_code 27 = .ok (.aload_n 0, 1) := by decide +kernel
theorem d17_28 : decode jdk_68_method_9_code 28 = .ok (.getfield 22, 3) := by decide +kernel
theorem d17_31 : decode jdk_68_method_9_code 31 = .ok (.ishl, 1) := by decide +kernel
theorem d17_32 : decode jdk_68_method_9_code 32 = .ok (.invokestatic 108, 3) := by decide +kernel
theorem d24_0 : decode jdk_65_method_121_code 0 = .ok (.iload_n 1, 1) := by decide +kernel
theorem d24_1 : decode jdk_65_method_121_code 1 = .ok (.aload_n 0, 1) := by decide +kernel
theorem d24_2 : decode jdk_65_method_121_code 2 = .ok (.arraylength, 1) := by decide +kernel
theorem d24_3 : decode jdk_65_method_121_code 3 = .ok (.if_icmp .ne 11, 3) := by decide +kernel
theorem d24_14 : decode jdk_65_method_121_code 14 = .ok (.iload_n 1, 1) := by decide +kernel
theorem d24_15 : decode jdk_65_method_121_code 15 = .ok (.newarray .byte, 2) := by decide +kernel
theorem d24_17 : decode jdk_65_method_121_code 17 = .ok (.astore_n 2, 1) := by decide +kernel
theorem d24_18 : decode jdk_65_method_121_code 18 = .ok (.aload_n 0, 1) := by decide +kernel
theorem d24_19 : decode jdk_65_method_121_code 19 = .ok (.iconst 0, 1) := by decide +kernel
theorem d24_20 : decode jdk_65_method_121_code 20 = .ok (.aload_n 2, 1) := by decide +kernel
theorem d24_21 : decode jdk_65_method_121_code 21 = .ok (.iconst 0, 1) := by decide +kernel
theorem d24_22 : decode jdk_65_method_121_code 22 = .ok (.aload_n 0, 1) := by decide +kernel
theorem d24_23 : decode jdk_65_method_121_code 23 = .ok (.arraylength, 1) := by decide +kernel
theorem d24_24 : decode jdk_65_method_121_code 24 = .ok (.iload_n 1, 1) := by decide +kernel
theorem d24_25 : decode jdk_65_method_121_code 25 = .ok (.invokestatic 304, 3) := by decide +kernel
theorem d25_0 : decode jdk_29_method_69_code 0 = .ok (.iload_n 0, 1) := by decide +kernel
theorem d25_1 : decode jdk_29_method_69_code 1 = .ok (.iload_n 1, 1) := by decide +kernel
theorem d25_2 : decode jdk_29_method_69_code 2 = .ok (.if_icmp .gt 7, 3) := by decide +kernel
theorem d25_9 : decode jdk_29_method_69_code 9 = .ok (.iload_n 1, 1) := by decide +kernel
theorem d25_10 : decode jdk_29_method_69_code 10 = .ok (.ireturn, 1) := by decide +kernel
theorem d25_5 : decode jdk_29_method_69_code 5 = .ok (.iload_n 0, 1) := by decide +kernel
theorem d25_6 : decode jdk_29_method_69_code 6 = .ok (.goto 4, 3) := by decide +kernel
abbrev y16 : MethodName := ⟨"java/lang/Math", "min", "(II)I"⟩
abbrev y16b : ByteArray := jdk_29_method_69_code
abbrev y16r : Option Jvm.ClassFile.FieldType := (Option.some Jvm.ClassFile.FieldType.int)
theorem c21_min {Z a0} (hw : HW a0 Z) (hs : SF Z) {x1 : Int32} (hx1 : 0 ≤ x1.toInt ∧ x1.toInt ≤ 7) {x2 : Int32} (hx2 : 0 ≤ x2.toInt ∧ x2.toInt ≤ 31) {F : List Ent} : Con Z EL y16 y16b 2 y16r (rmm 0 0 0 0) [(vi x1), (vi x2)] (F) (fun v D' => (Cd .gt x1 x2 ∧ v = some (vi x2) ∧ F = D') ∨ (¬ Cd .gt x1 x2 ∧ v = some (vi x1) ∧ F = D')) := by
  refine Con.of (ls := #[iv x1, iv x2]) (by decide +kernel) rfl ?_
  refine W.iloadN d25_0 rfl ?_
  refine W.iloadN d25_1 rfl ?_
  refine W.icmp 9 d25_2 (by decide) (fun h1 => ?_) (fun h1 => ?_)
  ·
   have ih1 := t_gt h1
   refine W.iloadN d25_9 rfl ?_
   exact W.ireturn d25_10 rfl (Or.inl rfl) rfl (by decide) (Or.inl ⟨h1, rfl, rfl⟩)
  ·
   have ih1 := f_gt h1
   refine W.iloadN d25_5 rfl ?_
   refine W.goto 10 d25_6 (by decide) ?_
   exact W.ireturn d25_10 rfl (Or.inl rfl) rfl (by decide) (Or.inr ⟨h1, rfl, rfl⟩)
theorem d24_28 : decode jdk_65_method_121_code 28 = .ok (.invokestatic 150, 3) := by decide +kernel
theorem d24_31 : decode jdk_65_method_121_code 31 = .ok (.aload_n 2, 1) := by decide +kernel
theorem d24_32 : decode jdk_65_method_121_code 32 = .ok (.areturn, 1) := by decide +kernel
abbrev y17 : MethodName := ⟨"java/util/Arrays", "copyOf", "([BI)[B"⟩
abbrev y17b : ByteArray := jdk_65_method_121_code
abbrev y17r : Option Jvm.ClassFile.FieldType := (Option.some (Jvm.ClassFile.FieldType.array Jvm.ClassFile.FieldType.byte))
theorem c20_copyOf {Z a0} (hw : HW a0 Z) (hs : SF Z) {p1 : Addr} {x1 : Int32} (hx1 : 0 ≤ x1.toInt ∧ x1.toInt ≤ 31) {x2 : Int32} (hx2 : 0 ≤ x2.toInt ∧ x2.toInt ≤ 7) {l1 : List Int32} (hl_l1 : (l1.length : Int) = x2.toInt) (hr0 : x2.toInt < x1.toInt) {w_p1 : Bool} {ad_p1 : String} {F : List Ent} (mp1 : (p1, w_p1, ar ad_p1 .byte (lm l1)) ∈ F) : Con Z EL y17 y17b 3 y17r (rmm 1 1 31 48) [(vr p1), (vi x1)] (F) (fun v D' => (∃ a1 : Addr, ¬ Cd .gt x2 x1 ∧ (((cpl l1 (0 : Int32).toInt.toNat (List.replicate x1.toInt.toNat (0 : Int32)) (0 : Int32).toInt.toNat x2.toInt.toNat)).length : Int) = x1.toInt ∧ v = some (vr a1) ∧ (a1, true, ar "[B" .byte (lm (cpl l1 (0 : Int32).toInt.toNat (List.replicate x1.toInt.toNat (0 : Int32)) (0 : Int32).toInt.toNat x2.toInt.toNat))) :: F = D')) := by
  refine Con.of (ls := #[rv p1, iv x1, uu]) (by decide +kernel) rfl ?_
  refine W.iloadN d24_0 rfl ?_
  refine W.aloadN d24_1 rfl rfl ?_
  refine W.alenS (l := l1) (z := x2) d24_2 mp1 hl_l1 ?_
  refine W.icmpY 14 d24_3 (y_ne (by omega)) (by decide) ?_
  refine W.iloadN d24_14 rfl ?_
  have hl2 := len_rep (z := x1) (by have := q0; omega)
  refine W.newarrB 31 d24_15 (wq hw 7 rfl) (by have := q0; have := q31; omega) (by decide) (by decide) (fun a1 => ?_)
  show W _ _ _ _ _ _ _ _ _ _ _ _ 17 _ [(vr a1)]
  refine W.astoreN (ls' := #[rv p1, iv x1, rv a1]) d24_17 rfl rfl ?_
  refine W.aloadN d24_18 rfl rfl ?_
  refine W.iconst (0) d24_19 (by decide) ?_
  refine W.aloadN d24_20 rfl rfl ?_
  refine W.iconst (0) d24_21 (by decide) ?_
  refine W.aloadN d24_22 rfl rfl ?_
  refine W.alenS (l := l1) (z := x2) d24_23 (mS mp1) hl_l1 ?_
  refine W.iloadN d24_24 rfl ?_
  refine W.callS (as := [(vi x2), (vi x1)]) 4 [(vi 0), (vr a1), (vi 0), (vr p1)] d24_25 (wq hw 166 rfl) (wq hw 167 rfl) (wq hw 158 rfl) (wq hw 168 rfl) (c21_min hw hs (hx1 := hx2) (hx2 := hx1)) (by decide) pd_II_I rfl rfl rfl rfl (by decide) (fun v D' h => ?_)
  rcases h with ⟨h1, rfl, rfl⟩ | ⟨h2, rfl, rfl⟩
  ·
   exact absurd h1 (n_gt (by omega))
  ·
   have ih2 := f_gt h2
   show W _ _ _ _ _ _ _ _ _ _ _ _ 28 _ [(vi x2), (vi 0), (vr a1), (vi 0), (vr p1)]
   have hl3 := len_cplI (l1 := l1) (l2 := (List.replicate x1.toInt.toNat (0 : Int32))) (s := (0 : Int32)) (d := (0 : Int32)) (n := x2) hl_l1 hl2 (by have := q0; omega)
   refine W.cpyS (l1 := l1) (l2 := (List.replicate x1.toInt.toNat (0 : Int32))) (D' := (a1, true, ar "[B" .byte (lm (cpl l1 (0 : Int32).toInt.toNat (List.replicate x1.toInt.toNat (0 : Int32)) (0 : Int32).toInt.toNat x2.toInt.toNat))) :: F) 0 0 d24_28 (wq hw 169 rfl) (wq hw 172 rfl) (wq hw 170 rfl) (wq hw 171 rfl) (mS mp1) rfl rfl (by have := hl_l1; have := hl2; have := q0; omega) rfl rfl (by decide) rfl ?_
   refine W.aloadN d24_31 rfl rfl ?_
   exact W.areturn d24_32 rfl rfl rfl (by decide) ⟨a1, h2, hl3, rfl, rfl⟩
theorem pd__BI__B : parseMethodDescriptor "([BI)[B" = some ⟨[(.array .byte), .int], some (.array .byte)⟩ := by decide +kernel
theorem d17_35 : decode jdk_68_method_9_code 35 = .ok (.putfield 15, 3) := by decide +kernel
abbrev y18 : MethodName := ⟨"java/lang/AbstractStringBuilder", "ensureCapacityInternal", "(I)V"⟩
abbrev y18b : ByteArray := jdk_68_method_9_code
abbrev y18r : Option Jvm.ClassFile.FieldType := (Option.none : Option Jvm.ClassFile.FieldType)
theorem c16_ensureCapacityInternal {Z a0} (hw : HW a0 Z) (hs : SF Z) {p1 p2 : Addr} {x1 : Int32} (hx1 : 0 ≤ x1.toInt ∧ x1.toInt ≤ 15) {x3 : Int32} (hx3 : 0 ≤ x3.toInt ∧ x3.toInt ≤ 7) {l1 : List Int32} (hl_l1 : (l1.length : Int) = x3.toInt) {f_p1_2 : Value} {w_p2 : Bool} {ad_p2 : String} {F : List Ent} (mp2 : (p2, w_p2, ar ad_p2 .byte (lm l1)) ∈ F) : Con Z EL y18 y18b 3 y18r (rmm 3 1 31 63) [(vr p1), (vi x1)] ((p1, true, oStringBuilder (vr p2) (vi 0) f_p1_2) :: F) (fun v D' => (Cd .le (x1 - x3) (0 : Int32) ∧ v = none ∧ (p1, true, oStringBuilder (vr p2) (vi 0) f_p1_2) :: F = D') ∨ (∃ a1 : Addr, ¬ Cd .le (x1 - x3) (0 : Int32) ∧ Cd .lt (x1 - x3) (x3 + (2 : Int32)) ∧ ¬ Cd .gt x3 (x3 + (x3 + (2 : Int32))) ∧ (((cpl l1 (0 : Int32).toInt.toNat (List.replicate (x3 + (x3 + (2 : Int32))).toInt.toNat (0 : Int32)) (0 : Int32).toInt.toNat x3.toInt.toNat)).length : Int) = (x3 + (x3 + (2 : Int32))).toInt ∧ v = none ∧ (a1, true, ar "[B" .byte (lm (cpl l1 (0 : Int32).toInt.toNat (List.replicate (x3 + (x3 + (2 : Int32))).toInt.toNat (0 : Int32)) (0 : Int32).toInt.toNat x3.toInt.toNat))) :: (p1, true, oStringBuilder (vr a1) (vi 0) f_p1_2) :: F = D') ∨ (∃ a3 : Addr, ¬ Cd .le (x1 - x3) (0 : Int32) ∧ ¬ Cd .lt (x1 - x3) (x3 + (2 : Int32)) ∧ ¬ Cd .gt x3 (x3 + (x1 - x3)) ∧ (((cpl l1 (0 : Int32).toInt.toNat (List.replicate (x3 + (x1 - x3)).toInt.toNat (0 : Int32)) (0 : Int32).toInt.toNat x3.toInt.toNat)).length : Int) = (x3 + (x1 - x3)).toInt ∧ v = none ∧ (a3, true, ar "[B" .byte (lm (cpl l1 (0 : Int32).toInt.toNat (List.replicate (x3 + (x1 - x3)).toInt.toNat (0 : Int32)) (0 : Int32).toInt.toNat x3.toInt.toNat))) :: (p1, true, oStringBuilder (vr a3) (vi 0) f_p1_2) :: F = D')) := by
  refine Con.of (ls := #[rv p1, iv x1, uu]) (by decide +kernel) rfl ?_
  refine W.aloadN d17_0 rfl rfl ?_
  refine W.getf d17_1 (wq hw 106 rfl) Via.refl m0 m0 ?_
  refine W.alenS (l := l1) (z := x3) d17_4 (mS mp2) hl_l1 ?_
  refine W.aloadN d17_5 rfl rfl ?_
  refine W.getf d17_6 (wq hw 108 rfl) Via.refl m0 m1 ?_
  refine W.ishrK x3 d17_9 (z_shr0 x3) ?_
  refine W.istoreN (ls' := #[rv p1, iv x1, iv x3]) d17_10 rfl ?_
  refine W.iloadN d17_11 rfl ?_
  refine W.iloadN d17_12 rfl ?_
  refine W.isub d17_13 ?_
  refine W.if 38 d17_14 (by decide) (fun h1 => ?_) (fun h1 => ?_)
  ·
   have ih1 := t_le h1
   exact W.return_ d17_38 rfl (by decide) (Or.inl ⟨h1, rfl, rfl⟩)
  ·
   have ih1 := f_le h1
   refine W.aloadN d17_17 rfl rfl ?_
   refine W.aloadN d17_18 rfl rfl ?_
   refine W.getf d17_19 (wq hw 106 rfl) Via.refl m0 m0 ?_
   refine W.aloadN d17_22 rfl rfl ?_
   refine W.iloadN d17_23 rfl ?_
   refine W.callP (as := [(vi x1)]) 2 [(vr p2), (vr p1)] d17_24 (wq hw 147 rfl) (wq hw 148 rfl) (wq hw 150 rfl) (wq hw 149 rfl) (wq hw 102 rfl) (wq hw 151 rfl) (Hp.exa m0) (c17_newCapacity hw hs (hx1 := hx1) (hx3 := hx3) (hr0 := by have := q0; have := a_sub x1 x3; omega) (l1 := l1) (hl_l1 := hl_l1) (mp1 := m0) (mp2 := (mS mp2))) (by decide) pd_I_I rfl rfl rfl rfl (by decide) (fun v D' h => ?_)
   rcases h with ⟨h2, rfl, rfl⟩ | ⟨h3, rfl, rfl⟩
   ·
    have ih2 := t_lt h2
    show W _ _ _ _ _ _ _ _ _ _ _ _ 27 _ [(vi (x3 + (x3 + (2 : Int32)))), (vr p2), (vr p1)]
    refine W.aloadN d17_27 rfl rfl ?_
    refine W.getf d17_28 (wq hw 108 rfl) Via.refl m0 m1 ?_
    refine W.ishlK (x3 + (x3 + (2 : Int32))) d17_31 (z_shl0 (x3 + (x3 + (2 : Int32)))) ?_
    refine W.callS (as := [(vr p2), (vi (x3 + (x3 + (2 : Int32))))]) 1 [(vr p1)] d17_32 (wq hw 162 rfl) (wq hw 163 rfl) (wq hw 164 rfl) (wq hw 165 rfl) (c20_copyOf hw hs (hx1 := (by have := q2; have := a_add x3 (2 : Int32); have := a_add x3 (x3 + (2 : Int32)); have := q0; have := a_sub x1 x3; omega)) (hx2 := hx3) (hr0 := by have := q2; have := a_add x3 (2 : Int32); have := a_add x3 (x3 + (2 : Int32)); have := q0; have := a_sub x1 x3; omega) (l1 := l1) (hl_l1 := hl_l1) (mp1 := (mS mp2))) (by decide) pd__BI__B rfl rfl rfl rfl (by decide) (fun v D' h => ?_)
    obtain ⟨a1, h4, hl2, rfl, rfl⟩ := h
    have ih4 := f_gt h4
    show W _ _ _ _ _ _ _ _ _ _ _ _ 35 _ [(vr a1), (vr p1)]
    refine W.putf (D' := (a1, true, ar "[B" .byte (lm (cpl l1 (0 : Int32).toInt.toNat (List.replicate (x3 + (x3 + (2 : Int32))).toInt.toNat (0 : Int32)) (0 : Int32).toInt.toNat x3.toInt.toNat))) :: (p1, true, oStringBuilder (vr a1) (vi 0) f_p1_2) :: F) 1 0 d17_35 (wq hw 106 rfl) Via.refl rfl rfl (Or.inl (wq hw 107 rfl)) (wq hw 93 rfl) pf_B rfl rfl rfl ?_
    exact W.return_ d17_38 rfl (by decide) (Or.inr (Or.inl ⟨a1, h1, h2, h4, hl2, rfl, rfl⟩))
   ·
    have ih3 := f_lt h3
    show W _ _ _ _ _ _ _ _ _ _ _ _ 27 _ [(vi (x3 + (x1 - x3))), (vr p2), (vr p1)]
    refine W.aloadN d17_27 rfl rfl ?_
    refine W.getf d17_28 (wq hw 108 rfl) Via.refl m0 m1 ?_
    refine W.ishlK (x3 + (x1 - x3)) d17_31 (z_shl0 (x3 + (x1 - x3))) ?_
    refine W.callS (as := [(vr p2), (vi (x3 + (x1 - x3)))]) 1 [(vr p1)] d17_32 (wq hw 162 rfl) (wq hw 163 rfl) (wq hw 164 rfl) (wq hw 165 rfl) (c20_copyOf hw hs (hx1 := (by have := a_sub x1 x3; have := a_add x3 (x1 - x3); have := q0; have := q2; have := a_add x3 (2 : Int32); omega)) (hx2 := hx3) (hr0 := by have := a_sub x1 x3; have := a_add x3 (x1 - x3); have := q0; have := q2; have := a_add x3 (2 : Int32); omega) (l1 := l1) (hl_l1 := hl_l1) (mp1 := (mS mp2))) (by decide) pd__BI__B rfl rfl rfl rfl (by decide) (fun v D' h => ?_)
    obtain ⟨a3, h5, hl4, rfl, rfl⟩ := h
    have ih5 := f_gt h5
    show W _ _ _ _ _ _ _ _ _ _ _ _ 35 _ [(vr a3), (vr p1)]
    refine W.putf (D' := (a3, true, ar "[B" .byte (lm (cpl l1 (0 : Int32).toInt.toNat (List.replicate (x3 + (x1 - x3)).toInt.toNat (0 : Int32)) (0 : Int32).toInt.toNat x3.toInt.toNat))) :: (p1, true, oStringBuilder (vr a3) (vi 0) f_p1_2) :: F) 1 0 d17_35 (wq hw 106 rfl) Via.refl rfl rfl (Or.inl (wq hw 107 rfl)) (wq hw 93 rfl) pf_B rfl rfl rfl ?_
    exact W.return_ d17_38 rfl (by decide) (Or.inr (Or.inr ⟨a3, h1, h3, h5, hl4, rfl, rfl⟩))
theorem d15_27 : decode jdk_68_method_29_code 27 = .ok (.aload_n 0, 1) := by decide +kernel
theorem d15_28 : decode jdk_68_method_29_code 28 = .ok (.aload_n 1, 1) := by decide +kernel
theorem d15_29 : decode jdk_68_method_29_code 29 = .ok (.iload_n 2, 1) := by decide +kernel
theorem d15_30 : decode jdk_68_method_29_code 30 = .ok (.iload 4, 2) := by decide +kernel
theorem d15_32 : decode jdk_68_method_29_code 32 = .ok (.invokevirtual 239, 3) := by decide +kernel
theorem d18_0 : decode jdk_68_method_74_code 0 = .ok (.aload_n 0, 1) := by decide +kernel
theorem d18_1 : decode jdk_68_method_74_code 1 = .ok (.getfield 79, 3) := by decide +kernel
theorem d18_4 : decode jdk_68_method_74_code 4 = .ok (.istore 4, 2) := by decide +kernel
theorem d18_6 : decode jdk_68_method_74_code 6 = .ok (.aload_n 0, 1) := by decide +kernel
theorem d18_7 : decode jdk_68_method_74_code 7 = .ok (.invokevirtual 83, 3) := by decide +kernel
theorem d19_0 : decode jdk_68_method_68_code 0 = .ok (.getstatic 18, 3) := by decide +kernel
theorem d19_3 : decode jdk_68_method_68_code 3 = .ok (.ifCond .eq 14, 3) := by decide +kernel
theorem d19_6 : decode jdk_68_method_68_code 6 = .ok (.aload_n 0, 1) := by decide +kernel
theorem d19_7 : decode jdk_68_method_68_code 7 = .ok (.getfield 22, 3) := by decide +kernel
theorem d19_10 : decode jdk_68_method_68_code 10 = .ok (.ifCond .ne 7, 3) := by decide +kernel
theorem d19_13 : decode jdk_68_method_68_code 13 = .ok (.iconst 1, 1) := by decide +kernel
theorem d19_14 : decode jdk_68_method_68_code 14 = .ok (.goto 4, 3) := by decide +kernel
theorem d19_18 : decode jdk_68_method_68_code 18 = .ok (.ireturn, 1) := by decide +kernel
abbrev y19 : MethodName := ⟨"java/lang/AbstractStringBuilder", "isLatin1", "()Z"⟩
abbrev y19b : ByteArray := jdk_68_method_68_code
abbrev y19r : Option Jvm.ClassFile.FieldType := (Option.some Jvm.ClassFile.FieldType.boolean)
theorem c23_isLatin1 {Z a0} (hw : HW a0 Z) (hs : SF Z) {p1 : Addr} {f_p1_0 f_p1_2 : Value} {w_p1 : Bool} {F : List Ent} (mp1 : (p1, w_p1, oStringBuilder f_p1_0 (vi 0) f_p1_2) ∈ F) : Con Z EL y19 y19b 1 y19r (rmm 0 0 0 0) [(vr p1)] (F) (fun v D' => (v = some (vi 1) ∧ F = D')) := by
  refine Con.of (ls := #[rv p1]) (by decide +kernel) rfl ?_
  refine W.gets d19_0 (wq hw 105 rfl) Via.refl hs.1 ?_
  refine W.ifN d19_3 (n_eq (by have := hs.2.1; have := q0; omega)) ?_
  refine W.aloadN d19_6 rfl rfl ?_
  refine W.getf d19_7 (wq hw 108 rfl) Via.refl mp1 m1 ?_
  refine W.ifN d19_10 (n_ne (by decide)) ?_
  refine W.iconst (1) d19_13 (by decide) ?_
  refine W.goto 18 d19_14 (by decide) ?_
  exact W.ireturn d19_18 rfl (Or.inr (Or.inl rfl)) (nw_bool (by decide)) (by decide) ⟨rfl, rfl⟩
theorem d18_10 : decode jdk_68_method_74_code 10 = .ok (.ifCond .eq 97, 3) := by decide +kernel
theorem d18_13 : decode jdk_68_method_74_code 13 = .ok (.aload_n 0, 1) := by decide +kernel
theorem d18_14 : decode jdk_68_method_74_code 14 = .ok (.getfield 15, 3) := by decide +kernel
theorem d18_17 : decode jdk_68_method_74_code 17 = .ok (.astore 5, 2) := by decide +kernel
theorem d18_19 : decode jdk_68_method_74_code 19 = .ok (.iload_n 2, 1) := by decide +kernel
theorem d18_20 : decode jdk_68_method_74_code 20 = .ok (.istore 6, 2) := by decide +kernel
theorem d18_22 : decode jdk_68_method_74_code 22 = .ok (.iload 4, 2) := by decide +kernel
theorem d18_24 : decode jdk_68_method_74_code 24 = .ok (.istore 7, 2) := by decide +kernel
theorem d18_26 : decode jdk_68_method_74_code 26 = .ok (.iload 6, 2) := by decide +kernel
theorem d18_28 : decode jdk_68_method_74_code 28 = .ok (.iload_n 3, 1) := by decide +kernel
theorem d18_29 : decode jdk_68_method_74_code 29 = .ok (.if_icmp .ge 75, 3) := by decide +kernel
theorem d18_104 : decode jdk_68_method_74_code 104 = .ok (.goto 15, 3) := by decide +kernel
theorem d18_119 : decode jdk_68_method_74_code 119 = .ok (.aload_n 0, 1) := by decide +kernel
theorem d18_120 : decode jdk_68_method_74_code 120 = .ok (.iload 4, 2) := by decide +kernel
theorem d18_122 : decode jdk_68_method_74_code 122 = .ok (.iload_n 3, 1) := by decide +kernel
theorem d18_123 : decode jdk_68_method_74_code 123 = .ok (.iadd, 1) := by decide +kernel
theorem d18_124 : decode jdk_68_method_74_code 124 = .ok (.iload_n 2, 1) := by decide +kernel
theorem d18_125 : decode jdk_68_method_74_code 125 = .ok (.isub, 1) := by decide +kernel
theorem d18_126 : decode jdk_68_method_74_code 126 = .ok (.putfield 79, 3) := by decide +kernel
theorem d18_129 : decode jdk_68_method_74_code 129 = .ok (.return_, 1) := by decide +kernel
theorem d18_32 : decode jdk_68_method_74_code 32 = .ok (.aload_n 1, 1) := by decide +kernel
theorem d18_33 : decode jdk_68_method_74_code 33 = .ok (.iload 6, 2) := by decide +kernel
theorem d18_35 : decode jdk_68_method_74_code 35 = .ok (.caload, 1) := by decide +kernel
theorem d18_36 : decode jdk_68_method_74_code 36 = .ok (.istore 8, 2) := by decide +kernel
theorem d18_38 : decode jdk_68_method_74_code 38 = .ok (.iload 8, 2) := by decide +kernel
theorem d18_40 : decode jdk_68_method_74_code 40 = .ok (.invokestatic 191, 3) := by decide +kernel
theorem d20_0 : decode jdk_43_method_3_code 0 = .ok (.iload_n 0, 1) := by decide +kernel
theorem d20_1 : decode jdk_43_method_3_code 1 = .ok (.sipush 255, 3) := by decide +kernel
theorem d20_4 : decode jdk_43_method_3_code 4 = .ok (.if_icmp .gt 7, 3) := by decide +kernel
theorem d20_7 : decode jdk_43_method_3_code 7 = .ok (.iconst 1, 1) := by decide +kernel
theorem d20_8 : decode jdk_43_method_3_code 8 = .ok (.goto 4, 3) := by decide +kernel
theorem d20_12 : decode jdk_43_method_3_code 12 = .ok (.ireturn, 1) := by decide +kernel
abbrev y20 : MethodName := ⟨"java/lang/StringLatin1", "canEncode", "(C)Z"⟩
abbrev y20b : ByteArray := jdk_43_method_3_code
abbrev y20r : Option Jvm.ClassFile.FieldType := (Option.some Jvm.ClassFile.FieldType.boolean)
theorem c24_canEncode {Z a0} (hw : HW a0 Z) (hs : SF Z) {x1 : Int32} (hx1 : 0 ≤ x1.toInt ∧ x1.toInt ≤ 255) {F : List Ent} : Con Z EL y20 y20b 1 y20r (rmm 0 0 0 0) [(vi x1)] (F) (fun v D' => (v = some (vi 1) ∧ F = D')) := by
  refine Con.of (ls := #[iv x1]) (by decide +kernel) rfl ?_
  refine W.iloadN d20_0 rfl ?_
  refine W.sipush (255) d20_1 (by decide) ?_
  refine W.icmpN d20_4 (n_gt (by have := q255; omega)) ?_
  refine W.iconst (1) d20_7 (by decide) ?_
  refine W.goto 12 d20_8 (by decide) ?_
  exact W.ireturn d20_12 rfl (Or.inr (Or.inl rfl)) (nw_bool (by decide)) (by decide) ⟨rfl, rfl⟩
theorem pd_C_Z : parseMethodDescriptor "(C)Z" = some ⟨[.char], some .boolean⟩ := by decide +kernel
theorem d18_43 : decode jdk_68_method_74_code 43 = .ok (.ifCond .eq 17, 3) := by decide +kernel
theorem d18_46 : decode jdk_68_method_74_code 46 = .ok (.aload 5, 2) := by decide +kernel
theorem d18_48 : decode jdk_68_method_74_code 48 = .ok (.iload 7, 2) := by decide +kernel
theorem d18_50 : decode jdk_68_method_74_code 50 = .ok (.iinc 7 1, 3) := by decide +kernel
theorem d18_53 : decode jdk_68_method_74_code 53 = .ok (.iload 8, 2) := by decide +kernel
theorem d18_55 : decode jdk_68_method_74_code 55 = .ok (.i2b, 1) := by decide +kernel
theorem d18_56 : decode jdk_68_method_74_code 56 = .ok (.bastore, 1) := by decide +kernel
theorem d18_57 : decode jdk_68_method_74_code 57 = .ok (.goto 41, 3) := by decide +kernel
theorem d18_98 : decode jdk_68_method_74_code 98 = .ok (.iinc 6 1, 3) := by decide +kernel
theorem d18_101 : decode jdk_68_method_74_code 101 = .ok (.goto (-75), 3) := by decide +kernel
abbrev y21 : MethodName := ⟨"java/lang/AbstractStringBuilder", "appendChars", "([CII)V"⟩
abbrev y21b : ByteArray := jdk_68_method_74_code
abbrev y21r : Option Jvm.ClassFile.FieldType := (Option.none : Option Jvm.ClassFile.FieldType)
theorem c22_appendChars {Z a0} (hw : HW a0 Z) (hs : SF Z) {p1 p2 p3 : Addr} {x1 : Int32} (hx1 : 0 ≤ x1.toInt ∧ x1.toInt ≤ 7) {x2 : Int32} (hx2 : 0 ≤ x2.toInt ∧ x2.toInt ≤ 7) {x3 : Int32} (hx3 : 0 ≤ x3.toInt ∧ x3.toInt ≤ 7) {x4 : Int32} (hx4 : 0 ≤ x4.toInt ∧ x4.toInt ≤ 7) {l1 : List Int32} (hl_l1 : (l1.length : Int) = (4 : Int32).toInt) (hb_l1 : ∀ x ∈ l1, 0 ≤ x.toInt ∧ x.toInt ≤ 255) {l2 : List Int32} (hl_l2 : (l2.length : Int) = x4.toInt) (hr0 : x1.toInt ≤ x2.toInt) (hr1 : x2.toInt ≤ (4 : Int32).toInt) (hr2 : (x3 + x2).toInt ≤ (x4 + x1).toInt) {ad_p3 : String} {w_p2 : Bool} {ad_p2 : String} {F : List Ent} (mp2 : (p2, w_p2, ar ad_p2 .char (lm l1)) ∈ F) : Con Z EL y21 y21b 9 y21r (rmm 1 0 0 12) [(vr p1), (vr p2), (vi x1), (vi x2)] ((p3, true, ar ad_p3 .byte (lm l2)) :: (p1, true, oStringBuilder (vr p3) (vi 0) (vi x3)) :: F) (fun v D' => ((((put l2 x3.toInt.toNat l1 x1.toInt.toNat (x2 - x1).toInt.toNat)).length : Int) = x4.toInt ∧ v = none ∧ (p3, true, ar ad_p3 .byte (lm (put l2 x3.toInt.toNat l1 x1.toInt.toNat (x2 - x1).toInt.toNat))) :: (p1, true, oStringBuilder (vr p3) (vi 0) (vi ((x3 + x2) - x1))) :: F = D')) := by
  refine Con.of (ls := #[rv p1, rv p2, iv x1, iv x2, uu, uu, uu, uu, uu]) (by decide +kernel) rfl ?_
  refine W.aloadN d18_0 rfl rfl ?_
  refine W.getf d18_1 (wq hw 126 rfl) Via.refl m1 m2 ?_
  refine W.istore (ls' := #[rv p1, rv p2, iv x1, iv x2, iv x3, uu, uu, uu, uu]) d18_4 rfl ?_
  refine W.aloadN d18_6 rfl rfl ?_
  refine W.callV (as := []) 0 [] d18_7 (wq hw 138 rfl) (wq hw 139 rfl) (wq hw 141 rfl) (wq hw 141 rfl) (wq hw 140 rfl) (wq hw 102 rfl) (wq hw 142 rfl) (Hp.exa m1) (c23_isLatin1 hw hs (mp1 := m1)) (by decide) pd__Z rfl rfl rfl rfl (by decide) (fun v D' h => ?_)
  obtain ⟨rfl, rfl⟩ := h
  show W _ _ _ _ _ _ _ _ _ _ _ _ 10 _ [(vi 1)]
  refine W.ifN d18_10 (n_eq (by decide)) ?_
  refine W.aloadN d18_13 rfl rfl ?_
  refine W.getf d18_14 (wq hw 106 rfl) Via.refl m1 m0 ?_
  refine W.astore (ls' := #[rv p1, rv p2, iv x1, iv x2, iv x3, rv p3, uu, uu, uu]) d18_17 rfl rfl ?_
  refine W.iloadN d18_19 rfl ?_
  refine W.istore (ls' := #[rv p1, rv p2, iv x1, iv x2, iv x3, rv p3, iv x1, uu, uu]) d18_20 rfl ?_
  refine W.iload d18_22 rfl ?_
  refine W.istore (ls' := #[rv p1, rv p2, iv x1, iv x2, iv x3, rv p3, iv x1, iv x3, uu]) d18_24 rfl ?_
  have K5 : ∀ (m : Nat) (g1 : Int32) (g2 : Int32) (gl3 : List Int32) (t4 : Slot), (0 ≤ g1.toInt ∧ g1.toInt ≤ 127) → (0 ≤ g2.toInt ∧ g2.toInt ≤ 127) → ((gl3.length : Int) = x4.toInt) → (SlOk t4) → (x1.toInt ≤ g1.toInt) → (g1.toInt ≤ x2.toInt) → ((g2 + x1).toInt = (x3 + g1).toInt) → (gl3 = put l2 x3.toInt.toNat l1 x1.toInt.toNat (g1.toInt - x1.toInt).toNat) → (x2.toInt - g1.toInt).toNat = m → W Z EL (rmm 1 0 0 12) "java/lang/AbstractStringBuilder" "appendChars" jdk_68_method_74_code 9 (Option.none : Option Jvm.ClassFile.FieldType) (fun v D' => ((((put l2 x3.toInt.toNat l1 x1.toInt.toNat (x2 - x1).toInt.toNat)).length : Int) = x4.toInt ∧ v = none ∧ (p3, true, ar ad_p3 .byte (lm (put l2 x3.toInt.toNat l1 x1.toInt.toNat (x2 - x1).toInt.toNat))) :: (p1, true, oStringBuilder (vr p3) (vi 0) (vi ((x3 + x2) - x1))) :: F = D')) ((p3, true, ar ad_p3 .byte (lm gl3)) :: (p1, true, oStringBuilder (vr p3) (vi 0) (vi x3)) :: F) 0 0 26 #[rv p1, rv p2, iv x1, iv x2, iv x3, rv p3, iv g1, iv g2, t4] [] := by
   intro m
   induction m using Nat.strongRecOn with
   | ind m ih =>
    intro g1 g2 gl3 t4 hg1 hg2 hgl3 ht4 ha hb hj hL hm
    refine W.iload d18_26 rfl ?_
    refine W.iloadN d18_28 rfl ?_
    refine W.icmp 104 d18_29 (by decide) (fun h1 => ?_) (fun h1 => ?_)
    ·
     have ih1 := t_ge h1
     have hE : gl3 = (put l2 x3.toInt.toNat l1 x1.toInt.toNat (x2 - x1).toInt.toNat) := by rw [hL, show (g1.toInt - x1.toInt).toNat = (x2 - x1).toInt.toNat from by have := a_sub x2 x1; have := q4; have := a_add x3 x2; have := a_add x4 x1; have := a_add g2 x1; have := a_add x3 g1; omega]
     subst hE
     refine W.goto 119 d18_104 (by decide) ?_
     refine W.aloadN d18_119 rfl rfl ?_
     refine W.iload d18_120 rfl ?_
     refine W.iloadN d18_122 rfl ?_
     refine W.iadd d18_123 ?_
     refine W.iloadN d18_124 rfl ?_
     refine W.isub d18_125 ?_
     refine W.putf (D' := (p3, true, ar ad_p3 .byte (lm (put l2 x3.toInt.toNat l1 x1.toInt.toNat (x2 - x1).toInt.toNat))) :: (p1, true, oStringBuilder (vr p3) (vi 0) (vi ((x3 + x2) - x1))) :: F) 1 2 d18_126 (wq hw 126 rfl) Via.refl rfl rfl (Or.inl (wq hw 127 rfl)) (wq hw 93 rfl) pfI rfl rfl rfl ?_
     exact W.return_ d18_129 rfl (by decide) ⟨hgl3, rfl, rfl⟩
    ·
     have ih1 := f_ge h1
     refine W.aloadN d18_32 rfl rfl ?_
     refine W.iload d18_33 rfl ?_
     refine W.caloadS (j' := g1) (l := l1) d18_35 (mS (mS mp2)) rfl (by have := hl_l1; have := q4; have := q0; have := a_add g2 x1; have := a_add x3 g1; have := a_add x3 x2; have := a_add x4 x1; omega) ?_
     refine W.istore (ls' := #[rv p1, rv p2, iv x1, iv x2, iv x3, rv p3, iv g1, iv g2, iv (sel g1 l1)]) d18_36 (store_ok ht4 rfl rfl) ?_
     refine W.iload d18_38 rfl ?_
     refine W.callS (as := [(vi (sel g1 l1))]) 0 [] d18_40 (wq hw 143 rfl) (wq hw 144 rfl) (wq hw 145 rfl) (wq hw 146 rfl) (c24_canEncode hw hs (hx1 := (by have := sel_b hb_l1 (by decide) g1; have := a_add g2 x1; have := a_add x3 g1; have := q4; have := a_add x3 x2; have := a_add x4 x1; omega))) (by decide) pd_C_Z rfl rfl rfl rfl (by decide) (fun v D' h => ?_)
     obtain ⟨rfl, rfl⟩ := h
     show W _ _ _ _ _ _ _ _ _ _ _ _ 43 _ [(vi 1)]
     refine W.ifN d18_43 (n_eq (by decide)) ?_
     refine W.aload 5 d18_46 rfl rfl ?_
     refine W.iload d18_48 rfl ?_
     refine W.iincK (ls' := #[rv p1, rv p2, iv x1, iv x2, iv x3, rv p3, iv g1, iv (g2 + (1 : Int32)), iv (sel g1 l1)]) (1) (g2 + (1 : Int32)) d18_50 (by decide) rfl rfl rfl ?_
     refine W.iload d18_53 rfl ?_
     refine W.i2b d18_55 ?_
     have hl7 := len_set (j := g2.toInt.toNat) (v := (sel g1 l1).toInt8.toInt32) hgl3
     refine W.bastoreS (l := gl3) (x' := (sel g1 l1).toInt8.toInt32) (D' := (p3, true, ar ad_p3 .byte (lm (List.set gl3 g2.toInt.toNat (sel g1 l1).toInt8.toInt32))) :: (p1, true, oStringBuilder (vr p3) (vi 0) (vi x3)) :: F) 0 d18_56 rfl (by have := hgl3; have := q0; have := a_add x3 x2; have := a_add x4 x1; have := a_add g2 x1; have := a_add x3 g1; have := q4; omega) (z_narB (by have := sel_b hb_l1 (by decide) g1; have := a_i2b (sel g1 l1); have := a_add g2 x1; have := a_add x3 g1; have := q4; have := a_add x3 x2; have := a_add x4 x1; omega)) rfl ?_
     refine W.goto 98 d18_57 (by decide) ?_
     refine W.iincK (ls' := #[rv p1, rv p2, iv x1, iv x2, iv x3, rv p3, iv (g1 + (1 : Int32)), iv (g2 + (1 : Int32)), iv (sel g1 l1)]) (1) (g1 + (1 : Int32)) d18_98 (by decide) rfl rfl rfl ?_
     refine W.goto 26 d18_101 (by decide) ?_
     exact W.mono (by decide) (by decide) (ih _ (by have := q1; have := a_add g1 (1 : Int32); have := q4; have := a_add x3 x2; have := a_add x4 x1; have := a_add g2 x1; have := a_add x3 g1; omega) (g1 + (1 : Int32)) (g2 + (1 : Int32)) (List.set gl3 g2.toInt.toNat (sel g1 l1).toInt8.toInt32) (iv (sel g1 l1)) (by have := q1; have := a_add g1 (1 : Int32); have := a_add g2 x1; have := a_add x3 g1; have := q4; have := a_add x3 x2; have := a_add x4 x1; omega) (by have := q1; have := a_add g2 (1 : Int32); have := a_add g2 x1; have := a_add x3 g1; have := a_add x3 x2; have := a_add x4 x1; have := q4; omega) hl7 (Or.inr ⟨_, rfl, rfl⟩) (by have := q1; have := a_add g1 (1 : Int32); have := a_add g2 (1 : Int32); have := q4; have := a_add (g2 + (1 : Int32)) x1; have := a_add x3 (g1 + (1 : Int32)); have := q0; have := a_add g2 x1; have := a_add x3 g1; have := a_add x3 x2; have := a_add x4 x1; omega) (by have := q1; have := a_add g1 (1 : Int32); have := a_add g2 (1 : Int32); have := q4; have := a_add (g2 + (1 : Int32)) x1; have := a_add x3 (g1 + (1 : Int32)); have := q0; have := a_add g2 x1; have := a_add x3 g1; have := a_add x3 x2; have := a_add x4 x1; omega) (by have := q1; have := a_add g1 (1 : Int32); have := a_add g2 (1 : Int32); have := q4; have := a_add (g2 + (1 : Int32)) x1; have := a_add x3 (g1 + (1 : Int32)); have := q0; have := a_add g2 x1; have := a_add x3 g1; have := a_add x3 x2; have := a_add x4 x1; omega) (by rw [hL]; exact put_step hl_l2 hl_l1 (by have := q1; have := a_add g1 (1 : Int32); have := a_add g2 (1 : Int32); have := q4; have := a_add (g2 + (1 : Int32)) x1; have := a_add x3 (g1 + (1 : Int32)); have := q0; have := a_add g2 x1; have := a_add x3 g1; have := a_add x3 x2; have := a_add x4 x1; omega)) rfl)
  exact K5 _ x1 x3 l2 (uu) (by have := a_add x3 x2; have := a_add x4 x1; have := q4; omega) (by have := a_add x3 x2; have := a_add x4 x1; have := q4; omega) hl_l2 (Or.inl rfl) (by have := q4; have := a_add x3 x1; have := q0; have := a_add x3 x2; have := a_add x4 x1; omega) (by have := q4; have := a_add x3 x1; have := q0; have := a_add x3 x2; have := a_add x4 x1; omega) (by have := q4; have := a_add x3 x1; have := q0; have := a_add x3 x2; have := a_add x4 x1; omega) (put_first _ _ _ _) rfl
theorem pd__CII_V : parseMethodDescriptor "([CII)V" = some ⟨[(.array .char), .int, .int], none⟩ := by decide +kernel
theorem d15_35 : decode jdk_68_method_29_code 35 = .ok (.aload_n 0, 1) := by decide +kernel
theorem d15_36 : decode jdk_68_method_29_code 36 = .ok (.areturn, 1) := by decide +kernel
theorem c25_appendChars {Z a0} (hw : HW a0 Z) (hs : SF Z) {p1 p2 p3 : Addr} {x1 : Int32} (hx1 : 0 ≤ x1.toInt ∧ x1.toInt ≤ 7) {x2 : Int32} (hx2 : 0 ≤ x2.toInt ∧ x2.toInt ≤ 7) {x3 : Int32} (hx3 : 0 ≤ x3.toInt ∧ x3.toInt ≤ 7) {x4 : Int32} (hx4 : 0 ≤ x4.toInt ∧ x4.toInt ≤ 15) {l1 : List Int32} (hl_l1 : (l1.length : Int) = (4 : Int32).toInt) (hb_l1 : ∀ x ∈ l1, 0 ≤ x.toInt ∧ x.toInt ≤ 255) {l2 : List Int32} (hl_l2 : (l2.length : Int) = x4.toInt) (hr0 : x1.toInt ≤ x2.toInt) (hr1 : x2.toInt ≤ (4 : Int32).toInt) (hr2 : (x3 + x2).toInt ≤ (x4 + x1).toInt) {ad_p3 : String} {w_p2 : Bool} {ad_p2 : String} {F : List Ent} (mp2 : (p2, w_p2, ar ad_p2 .char (lm l1)) ∈ F) : Con Z EL y21 y21b 9 y21r (rmm 1 0 0 12) [(vr p1), (vr p2), (vi x1), (vi x2)] ((p3, true, ar ad_p3 .byte (lm l2)) :: (p1, true, oStringBuilder (vr p3) (vi 0) (vi x3)) :: F) (fun v D' => ((((put l2 x3.toInt.toNat l1 x1.toInt.toNat (x2 - x1).toInt.toNat)).length : Int) = x4.toInt ∧ v = none ∧ (p3, true, ar ad_p3 .byte (lm (put l2 x3.toInt.toNat l1 x1.toInt.toNat (x2 - x1).toInt.toNat))) :: (p1, true, oStringBuilder (vr p3) (vi 0) (vi ((x3 + x2) - x1))) :: F = D')) := by
  refine Con.of (ls := #[rv p1, rv p2, iv x1, iv x2, uu, uu, uu, uu, uu]) (by decide +kernel) rfl ?_
  refine W.aloadN d18_0 rfl rfl ?_
  refine W.getf d18_1 (wq hw 126 rfl) Via.refl m1 m2 ?_
  refine W.istore (ls' := #[rv p1, rv p2, iv x1, iv x2, iv x3, uu, uu, uu, uu]) d18_4 rfl ?_
  refine W.aloadN d18_6 rfl rfl ?_
  refine W.callV (as := []) 0 [] d18_7 (wq hw 138 rfl) (wq hw 139 rfl) (wq hw 141 rfl) (wq hw 141 rfl) (wq hw 140 rfl) (wq hw 102 rfl) (wq hw 142 rfl) (Hp.exa m1) (c23_isLatin1 hw hs (mp1 := m1)) (by decide) pd__Z rfl rfl rfl rfl (by decide) (fun v D' h => ?_)
  obtain ⟨rfl, rfl⟩ := h
  show W _ _ _ _ _ _ _ _ _ _ _ _ 10 _ [(vi 1)]
  refine W.ifN d18_10 (n_eq (by decide)) ?_
  refine W.aloadN d18_13 rfl rfl ?_
  refine W.getf d18_14 (wq hw 106 rfl) Via.refl m1 m0 ?_
  refine W.astore (ls' := #[rv p1, rv p2, iv x1, iv x2, iv x3, rv p3, uu, uu, uu]) d18_17 rfl rfl ?_
  refine W.iloadN d18_19 rfl ?_
  refine W.istore (ls' := #[rv p1, rv p2, iv x1, iv x2, iv x3, rv p3, iv x1, uu, uu]) d18_20 rfl ?_
  refine W.iload d18_22 rfl ?_
  refine W.istore (ls' := #[rv p1, rv p2, iv x1, iv x2, iv x3, rv p3, iv x1, iv x3, uu]) d18_24 rfl ?_
  have K5 : ∀ (m : Nat) (g1 : Int32) (g2 : Int32) (gl3 : List Int32) (t4 : Slot), (0 ≤ g1.toInt ∧ g1.toInt ≤ 127) → (0 ≤ g2.toInt ∧ g2.toInt ≤ 127) → ((gl3.length : Int) = x4.toInt) → (SlOk t4) → (x1.toInt ≤ g1.toInt) → (g1.toInt ≤ x2.toInt) → ((g2 + x1).toInt = (x3 + g1).toInt) → (gl3 = put l2 x3.toInt.toNat l1 x1.toInt.toNat (g1.toInt - x1.toInt).toNat) → (x2.toInt - g1.toInt).toNat = m → W Z EL (rmm 1 0 0 12) "java/lang/AbstractStringBuilder" "appendChars" jdk_68_method_74_code 9 (Option.none : Option Jvm.ClassFile.FieldType) (fun v D' => ((((put l2 x3.toInt.toNat l1 x1.toInt.toNat (x2 - x1).toInt.toNat)).length : Int) = x4.toInt ∧ v = none ∧ (p3, true, ar ad_p3 .byte (lm (put l2 x3.toInt.toNat l1 x1.toInt.toNat (x2 - x1).toInt.toNat))) :: (p1, true, oStringBuilder (vr p3) (vi 0) (vi ((x3 + x2) - x1))) :: F = D')) ((p3, true, ar ad_p3 .byte (lm gl3)) :: (p1, true, oStringBuilder (vr p3) (vi 0) (vi x3)) :: F) 0 0 26 #[rv p1, rv p2, iv x1, iv x2, iv x3, rv p3, iv g1, iv g2, t4] [] := by
   intro m
   induction m using Nat.strongRecOn with
   | ind m ih =>
    intro g1 g2 gl3 t4 hg1 hg2 hgl3 ht4 ha hb hj hL hm
    refine W.iload d18_26 rfl ?_
    refine W.iloadN d18_28 rfl ?_
    refine W.icmp 104 d18_29 (by decide) (fun h1 => ?_) (fun h1 => ?_)
    ·
     have ih1 := t_ge h1
     have hE : gl3 = (put l2 x3.toInt.toNat l1 x1.toInt.toNat (x2 - x1).toInt.toNat) := by rw [hL, show (g1.toInt - x1.toInt).toNat = (x2 - x1).toInt.toNat from by have := a_sub x2 x1; have := q4; have := a_add x3 x2; have := a_add x4 x1; have := a_add g2 x1; have := a_add x3 g1; omega]
     subst hE
     refine W.goto 119 d18_104 (by decide) ?_
     refine W.aloadN d18_119 rfl rfl ?_
     refine W.iload d18_120 rfl ?_
     refine W.iloadN d18_122 rfl ?_
     refine W.iadd d18_123 ?_
     refine W.iloadN d18_124 rfl ?_
     refine W.isub d18_125 ?_
     refine W.putf (D' := (p3, true, ar ad_p3 .byte (lm (put l2 x3.toInt.toNat l1 x1.toInt.toNat (x2 - x1).toInt.toNat))) :: (p1, true, oStringBuilder (vr p3) (vi 0) (vi ((x3 + x2) - x1))) :: F) 1 2 d18_126 (wq hw 126 rfl) Via.refl rfl rfl (Or.inl (wq hw 127 rfl)) (wq hw 93 rfl) pfI rfl rfl rfl ?_
     exact W.return_ d18_129 rfl (by decide) ⟨hgl3, rfl, rfl⟩
    ·
     have ih1 := f_ge h1
     refine W.aloadN d18_32 rfl rfl ?_
     refine W.iload d18_33 rfl ?_
     refine W.caloadS (j' := g1) (l := l1) d18_35 (mS (mS mp2)) rfl (by have := hl_l1; have := q4; have := q0; have := a_add g2 x1; have := a_add x3 g1; have := a_add x3 x2; have := a_add x4 x1; omega) ?_
     refine W.istore (ls' := #[rv p1, rv p2, iv x1, iv x2, iv x3, rv p3, iv g1, iv g2, iv (sel g1 l1)]) d18_36 (store_ok ht4 rfl rfl) ?_
     refine W.iload d18_38 rfl ?_
     refine W.callS (as := [(vi (sel g1 l1))]) 0 [] d18_40 (wq hw 143 rfl) (wq hw 144 rfl) (wq hw 145 rfl) (wq hw 146 rfl) (c24_canEncode hw hs (hx1 := (by have := sel_b hb_l1 (by decide) g1; have := a_add g2 x1; have := a_add x3 g1; have := q4; have := a_add x3 x2; have := a_add x4 x1; omega))) (by decide) pd_C_Z rfl rfl rfl rfl (by decide) (fun v D' h => ?_)
     obtain ⟨rfl, rfl⟩ := h
     show W _ _ _ _ _ _ _ _ _ _ _ _ 43 _ [(vi 1)]
     refine W.ifN d18_43 (n_eq (by decide)) ?_
     refine W.aload 5 d18_46 rfl rfl ?_
     refine W.iload d18_48 rfl ?_
     refine W.iincK (ls' := #[rv p1, rv p2, iv x1, iv x2, iv x3, rv p3, iv g1, iv (g2 + (1 : Int32)), iv (sel g1 l1)]) (1) (g2 + (1 : Int32)) d18_50 (by decide) rfl rfl rfl ?_
     refine W.iload d18_53 rfl ?_
     refine W.i2b d18_55 ?_
     have hl7 := len_set (j := g2.toInt.toNat) (v := (sel g1 l1).toInt8.toInt32) hgl3
     refine W.bastoreS (l := gl3) (x' := (sel g1 l1).toInt8.toInt32) (D' := (p3, true, ar ad_p3 .byte (lm (List.set gl3 g2.toInt.toNat (sel g1 l1).toInt8.toInt32))) :: (p1, true, oStringBuilder (vr p3) (vi 0) (vi x3)) :: F) 0 d18_56 rfl (by have := hgl3; have := q0; have := a_add x3 x2; have := a_add x4 x1; have := a_add g2 x1; have := a_add x3 g1; have := q4; omega) (z_narB (by have := sel_b hb_l1 (by decide) g1; have := a_i2b (sel g1 l1); have := a_add g2 x1; have := a_add x3 g1; have := q4; have := a_add x3 x2; have := a_add x4 x1; omega)) rfl ?_
     refine W.goto 98 d18_57 (by decide) ?_
     refine W.iincK (ls' := #[rv p1, rv p2, iv x1, iv x2, iv x3, rv p3, iv (g1 + (1 : Int32)), iv (g2 + (1 : Int32)), iv (sel g1 l1)]) (1) (g1 + (1 : Int32)) d18_98 (by decide) rfl rfl rfl ?_
     refine W.goto 26 d18_101 (by decide) ?_
     exact W.mono (by decide) (by decide) (ih _ (by have := q1; have := a_add g1 (1 : Int32); have := q4; have := a_add x3 x2; have := a_add x4 x1; have := a_add g2 x1; have := a_add x3 g1; omega) (g1 + (1 : Int32)) (g2 + (1 : Int32)) (List.set gl3 g2.toInt.toNat (sel g1 l1).toInt8.toInt32) (iv (sel g1 l1)) (by have := q1; have := a_add g1 (1 : Int32); have := a_add g2 x1; have := a_add x3 g1; have := q4; have := a_add x3 x2; have := a_add x4 x1; omega) (by have := q1; have := a_add g2 (1 : Int32); have := a_add g2 x1; have := a_add x3 g1; have := a_add x3 x2; have := a_add x4 x1; have := q4; omega) hl7 (Or.inr ⟨_, rfl, rfl⟩) (by have := q1; have := a_add g1 (1 : Int32); have := a_add g2 (1 : Int32); have := q4; have := a_add (g2 + (1 : Int32)) x1; have := a_add x3 (g1 + (1 : Int32)); have := q0; have := a_add g2 x1; have := a_add x3 g1; have := a_add x3 x2; have := a_add x4 x1; omega) (by have := q1; have := a_add g1 (1 : Int32); have := a_add g2 (1 : Int32); have := q4; have := a_add (g2 + (1 : Int32)) x1; have := a_add x3 (g1 + (1 : Int32)); have := q0; have := a_add g2 x1; have := a_add x3 g1; have := a_add x3 x2; have := a_add x4 x1; omega) (by have := q1; have := a_add g1 (1 : Int32); have := a_add g2 (1 : Int32); have := q4; have := a_add (g2 + (1 : Int32)) x1; have := a_add x3 (g1 + (1 : Int32)); have := q0; have := a_add g2 x1; have := a_add x3 g1; have := a_add x3 x2; have := a_add x4 x1; omega) (by rw [hL]; exact put_step hl_l2 hl_l1 (by have := q1; have := a_add g1 (1 : Int32); have := a_add g2 (1 : Int32); have := q4; have := a_add (g2 + (1 : Int32)) x1; have := a_add x3 (g1 + (1 : Int32)); have := q0; have := a_add g2 x1; have := a_add x3 g1; have := a_add x3 x2; have := a_add x4 x1; omega)) rfl)
  exact K5 _ x1 x3 l2 (uu) (by have := a_add x3 x2; have := a_add x4 x1; have := q4; omega) (by have := a_add x3 x2; have := a_add x4 x1; have := q4; omega) hl_l2 (Or.inl rfl) (by have := q4; have := a_add x3 x1; have := q0; have := a_add x3 x2; have := a_add x4 x1; omega) (by have := q4; have := a_add x3 x1; have := q0; have := a_add x3 x2; have := a_add x4 x1; omega) (by have := q4; have := a_add x3 x1; have := q0; have := a_add x3 x2; have := a_add x4 x1; omega) (put_first _ _ _ _) rfl
abbrev y22 : MethodName := ⟨"java/lang/AbstractStringBuilder", "append", "([CII)Ljava/lang/AbstractStringBuilder;"⟩
abbrev y22b : ByteArray := jdk_68_method_29_code
abbrev y22r : Option Jvm.ClassFile.FieldType := (Option.some (Jvm.ClassFile.FieldType.object "java/lang/AbstractStringBuilder"))
theorem c14_append {Z a0} (hw : HW a0 Z) (hs : SF Z) {p1 p2 p3 : Addr} {x1 : Int32} (hx1 : 0 ≤ x1.toInt ∧ x1.toInt ≤ 7) {x2 : Int32} (hx2 : 0 ≤ x2.toInt ∧ x2.toInt ≤ 7) {x3 : Int32} (hx3 : 0 ≤ x3.toInt ∧ x3.toInt ≤ 7) {l1 : List Int32} (hl_l1 : (l1.length : Int) = (4 : Int32).toInt) (hb_l1 : ∀ x ∈ l1, 0 ≤ x.toInt ∧ x.toInt ≤ 255) {l2 : List Int32} (hl_l2 : (l2.length : Int) = x2.toInt) (hr0 : (x1 + x2).toInt ≤ (4 : Int32).toInt) (hr1 : x3.toInt ≤ x2.toInt) {ad_p3 : String} {w_p2 : Bool} {ad_p2 : String} {F : List Ent} (mp2 : (p2, w_p2, ar ad_p2 .char (lm l1)) ∈ F) : Con Z EL y22 y22b 5 y22r (rmm 4 1 31 77) [(vr p1), (vr p2), (vi x1), (vi x2)] ((p1, true, oStringBuilder (vr p3) (vi 0) (vi x3)) :: (p3, true, ar ad_p3 .byte (lm l2)) :: F) (fun v D' => (Cd .le ((x3 + x2) - x2) (0 : Int32) ∧ (((put l2 x3.toInt.toNat l1 x1.toInt.toNat x2.toInt.toNat)).length : Int) = x2.toInt ∧ v = some (vr p1) ∧ (p3, true, ar ad_p3 .byte (lm (put l2 x3.toInt.toNat l1 x1.toInt.toNat x2.toInt.toNat))) :: (p1, true, oStringBuilder (vr p3) (vi 0) (vi (x3 + x2))) :: F = D') ∨ (∃ a1 : Addr, ¬ Cd .le ((x3 + x2) - x2) (0 : Int32) ∧ Cd .lt ((x3 + x2) - x2) (x2 + (2 : Int32)) ∧ ¬ Cd .gt x2 (x2 + (x2 + (2 : Int32))) ∧ (((put (cpl l2 (0 : Int32).toInt.toNat (List.replicate (x2 + (x2 + (2 : Int32))).toInt.toNat (0 : Int32)) (0 : Int32).toInt.toNat x2.toInt.toNat) x3.toInt.toNat l1 x1.toInt.toNat x2.toInt.toNat)).length : Int) = (x2 + (x2 + (2 : Int32))).toInt ∧ v = some (vr p1) ∧ (a1, true, ar "[B" .byte (lm (put (cpl l2 (0 : Int32).toInt.toNat (List.replicate (x2 + (x2 + (2 : Int32))).toInt.toNat (0 : Int32)) (0 : Int32).toInt.toNat x2.toInt.toNat) x3.toInt.toNat l1 x1.toInt.toNat x2.toInt.toNat))) :: (p1, true, oStringBuilder (vr a1) (vi 0) (vi (x3 + x2))) :: (p3, true, ar ad_p3 .byte (lm l2)) :: F = D')) := by
  refine Con.of (ls := #[rv p1, rv p2, iv x1, iv x2, uu]) (by decide +kernel) rfl ?_
  refine W.iloadN d15_0 rfl ?_
  refine W.iloadN d15_1 rfl ?_
  refine W.iadd d15_2 ?_
  refine W.istore (ls' := #[rv p1, rv p2, iv x1, iv x2, iv (x1 + x2)]) d15_3 rfl ?_
  refine W.iloadN d15_5 rfl ?_
  refine W.iload d15_6 rfl ?_
  refine W.aloadN d15_8 rfl rfl ?_
  refine W.alenS (l := l1) (z := (4 : Int32)) d15_9 (mS (mS mp2)) hl_l1 ?_
  refine W.gets d15_10 (wq hw 120 rfl) Via.refl hs.2.2.2.2.2.1 ?_
  refine W.callS (as := [(vi x1), (vi (x1 + x2)), (vi 4), (ifv Z)]) 0 [] d15_13 (wq hw 123 rfl) (wq hw 124 rfl) (wq hw 121 rfl) (wq hw 125 rfl) (c15_checkFromToIndex hw hs (hx1 := hx1) (hx2 := (by have := a_add x1 x2; have := q4; omega)) (hx3 := (by decide)) (hr0 := by have := q0; have := a_add x1 x2; have := q4; omega) (hr1 := by have := a_add x1 x2; have := q4; omega) (hr2 := by have := a_add x1 x2; have := q4; omega)) (by decide) pd_IIILjava_util_function_BiFunction__I rfl rfl rfl rfl (by decide) (fun v D' h => ?_)
  obtain ⟨rfl, rfl⟩ := h
  show W _ _ _ _ _ _ _ _ _ _ _ _ 16 _ [(vi x1)]
  refine W.popv d15_16 rfl ?_
  refine W.aloadN d15_17 rfl rfl ?_
  refine W.aloadN d15_18 rfl rfl ?_
  refine W.getf d15_19 (wq hw 126 rfl) Via.refl m0 m2 ?_
  refine W.iloadN d15_22 rfl ?_
  refine W.iadd d15_23 ?_
  refine W.callP (as := [(vi (x3 + x2))]) 0 [] d15_24 (wq hw 128 rfl) (wq hw 129 rfl) (wq hw 131 rfl) (wq hw 130 rfl) (wq hw 102 rfl) (wq hw 132 rfl) (Hp.exa m0) (c16_ensureCapacityInternal hw hs (hx1 := (by have := a_add x3 x2; have := a_add x1 x2; have := q4; omega)) (hx3 := hx2) (l1 := l2) (hl_l1 := hl_l2) (mp2 := m0)) (by decide) pd_I_V rfl rfl rfl rfl (by decide) (fun v D' h => ?_)
  rcases h with ⟨h1, rfl, rfl⟩ | ⟨a1, h2, h3, h4, hl2, rfl, rfl⟩ | ⟨a3, h5, h6, h7, hl4, rfl, rfl⟩
  ·
   have ih1 := t_le h1
   show W _ _ _ _ _ _ _ _ _ _ _ _ 27 _ []
   refine W.aloadN d15_27 rfl rfl ?_
   refine W.aloadN d15_28 rfl rfl ?_
   refine W.iloadN d15_29 rfl ?_
   refine W.iload d15_30 rfl ?_
   refine W.front 1 (D' := (p3, true, ar ad_p3 .byte (lm l2)) :: (p1, true, oStringBuilder (vr p3) (vi 0) (vi x3)) :: F) rfl rfl ?_
   refine W.callP (as := [(vr p2), (vi x1), (vi (x1 + x2))]) 0 [] d15_32 (wq hw 133 rfl) (wq hw 134 rfl) (wq hw 136 rfl) (wq hw 135 rfl) (wq hw 102 rfl) (wq hw 137 rfl) (Hp.exa m1) (c22_appendChars hw hs (hx1 := hx1) (hx2 := (by have := a_add x1 x2; have := q4; have := a_add x3 x2; have := a_sub (x3 + x2) x2; have := q0; omega)) (hx3 := hx3) (hx4 := hx2) (hr0 := by have := a_add x1 x2; have := q4; have := a_add x3 x2; have := a_sub (x3 + x2) x2; have := q0; omega) (hr1 := by have := a_add x1 x2; have := q4; have := a_add x3 x2; have := a_sub (x3 + x2) x2; have := q0; omega) (hr2 := by have := a_add x1 x2; have := a_add x3 (x1 + x2); have := a_add x2 x1; have := q4; have := a_add x3 x2; have := a_sub (x3 + x2) x2; have := q0; omega) (l1 := l1) (hl_l1 := hl_l1) (hb_l1 := hb_l1) (l2 := l2) (hl_l2 := hl_l2) (mp2 := mp2)) (by decide) pd__CII_V rfl rfl rfl rfl (by decide) (fun v D' h => ?_)
   obtain ⟨hl5, rfl, rfl⟩ := h
   show W _ _ _ _ _ _ _ _ _ _ _ _ 35 _ []
   rw [show ((x3 + (x1 + x2)) - x1) = (x3 + x2) from eqI (by have := a_add x1 x2; have := a_add x3 (x1 + x2); have := a_sub (x3 + (x1 + x2)) x1; have := a_add x3 x2; have := q4; have := a_sub (x3 + x2) x2; have := q0; omega)]
   rw [show ((x1 + x2) - x1) = x2 from eqI (by have := a_add x1 x2; have := a_sub (x1 + x2) x1; have := q4; have := a_add x3 x2; have := a_sub (x3 + x2) x2; have := q0; omega)] at hl5 ⊢
   refine W.aloadN d15_35 rfl rfl ?_
   exact W.areturn d15_36 rfl rfl rfl (by decide) (Or.inl ⟨h1, hl5, rfl, rfl⟩)
  ·
   have ih2 := f_le h2
   have ih3 := t_lt h3
   have ih4 := f_gt h4
   show W _ _ _ _ _ _ _ _ _ _ _ _ 27 _ []
   refine W.aloadN d15_27 rfl rfl ?_
   refine W.aloadN d15_28 rfl rfl ?_
   refine W.iloadN d15_29 rfl ?_
   refine W.iload d15_30 rfl ?_
   refine W.callP (as := [(vr p2), (vi x1), (vi (x1 + x2))]) 0 [] d15_32 (wq hw 133 rfl) (wq hw 134 rfl) (wq hw 136 rfl) (wq hw 135 rfl) (wq hw 102 rfl) (wq hw 137 rfl) (Hp.exa m1) (c25_appendChars hw hs (hx1 := hx1) (hx2 := (by have := a_add x1 x2; have := q4; have := q0; have := a_add x3 x2; have := a_sub (x3 + x2) x2; have := q2; have := a_add x2 (2 : Int32); have := a_add x2 (x2 + (2 : Int32)); omega)) (hx3 := hx3) (hx4 := (by have := q2; have := a_add x2 (2 : Int32); have := a_add x2 (x2 + (2 : Int32)); have := a_add x1 x2; have := q4; have := q0; have := a_add x3 x2; have := a_sub (x3 + x2) x2; omega)) (hr0 := by have := a_add x1 x2; have := q4; have := q0; have := a_add x3 x2; have := a_sub (x3 + x2) x2; have := q2; have := a_add x2 (2 : Int32); have := a_add x2 (x2 + (2 : Int32)); omega) (hr1 := by have := a_add x1 x2; have := q4; have := q0; have := a_add x3 x2; have := a_sub (x3 + x2) x2; have := q2; have := a_add x2 (2 : Int32); have := a_add x2 (x2 + (2 : Int32)); omega) (hr2 := by have := a_add x1 x2; have := a_add x3 (x1 + x2); have := q2; have := a_add x2 (2 : Int32); have := a_add x2 (x2 + (2 : Int32)); have := a_add (x2 + (x2 + (2 : Int32))) x1; have := q4; have := q0; have := a_add x3 x2; have := a_sub (x3 + x2) x2; omega) (l1 := l1) (hl_l1 := hl_l1) (hb_l1 := hb_l1) (l2 := (cpl l2 (0 : Int32).toInt.toNat (List.replicate (x2 + (x2 + (2 : Int32))).toInt.toNat (0 : Int32)) (0 : Int32).toInt.toNat x2.toInt.toNat)) (hl_l2 := hl2) (mp2 := (mS mp2))) (by decide) pd__CII_V rfl rfl rfl rfl (by decide) (fun v D' h => ?_)
   obtain ⟨hl6, rfl, rfl⟩ := h
   show W _ _ _ _ _ _ _ _ _ _ _ _ 35 _ []
   rw [show ((x3 + (x1 + x2)) - x1) = (x3 + x2) from eqI (by have := a_add x1 x2; have := a_add x3 (x1 + x2); have := a_sub (x3 + (x1 + x2)) x1; have := a_add x3 x2; have := q4; have := q0; have := a_sub (x3 + x2) x2; have := q2; have := a_add x2 (2 : Int32); have := a_add x2 (x2 + (2 : Int32)); omega)]
   rw [show ((x1 + x2) - x1) = x2 from eqI (by have := a_add x1 x2; have := a_sub (x1 + x2) x1; have := q4; have := q0; have := a_add x3 x2; have := a_sub (x3 + x2) x2; have := q2; have := a_add x2 (2 : Int32); have := a_add x2 (x2 + (2 : Int32)); omega)] at hl6 ⊢
   refine W.aloadN d15_35 rfl rfl ?_
   exact W.areturn d15_36 rfl rfl rfl (by decide) (Or.inr ⟨a1, h2, h3, h4, hl6, rfl, rfl⟩)
  ·
   have ih5 := f_le h5
   exact absurd h6 (Classical.not_not.mpr (y_lt (by have := a_add x3 x2; have := a_sub (x3 + x2) x2; have := q2; have := a_add x2 (2 : Int32); have := a_add x1 x2; have := q4; have := q0; omega)))
theorem pd__CII_Ljava_lang_AbstractStringBuilder_ : parseMethodDescriptor "([CII)Ljava/lang/AbstractStringBuilder;" = some ⟨[(.array .char), .int, .int], some (.object "java/lang/AbstractStringBuilder")⟩ := by decide +kernel
theorem d14_7 : decode jdk_67_method_12_code 7 = .ok (.pop, 1) := by decide +kernel
theorem d14_8 : decode jdk_67_method_12_code 8 = .ok (.aload_n 0, 1) := by decide +kernel
theorem d14_9 : decode jdk_67_method_12_code 9 = .ok (.areturn, 1) := by decide +kernel
abbrev y23 : MethodName := ⟨"java/lang/StringBuilder", "append", "([CII)Ljava/lang/StringBuilder;"⟩
abbrev y23b : ByteArray := jdk_67_method_12_code
abbrev y23r : Option Jvm.ClassFile.FieldType := (Option.some (Jvm.ClassFile.FieldType.object "java/lang/StringBuilder"))
theorem c13_append {Z a0} (hw : HW a0 Z) (hs : SF Z) {p1 p2 p3 : Addr} {x1 : Int32} (hx1 : 0 ≤ x1.toInt ∧ x1.toInt ≤ 7) {x2 : Int32} (hx2 : 0 ≤ x2.toInt ∧ x2.toInt ≤ 7) {x3 : Int32} (hx3 : 0 ≤ x3.toInt ∧ x3.toInt ≤ 127) {l1 : List Int32} (hl_l1 : (l1.length : Int) = (4 : Int32).toInt) (hb_l1 : ∀ x ∈ l1, 0 ≤ x.toInt ∧ x.toInt ≤ 255) {l2 : List Int32} (hl_l2 : (l2.length : Int) = x2.toInt) (hr0 : (x1 + x2).toInt ≤ (4 : Int32).toInt) (hr1 : x3.toInt ≤ x2.toInt) {ad_p3 : String} {w_p2 : Bool} {ad_p2 : String} {F : List Ent} (mp2 : (p2, w_p2, ar ad_p2 .char (lm l1)) ∈ F) : Con Z EL y23 y23b 4 y23r (rmm 5 1 31 93) [(vr p1), (vr p2), (vi x1), (vi x2)] ((p1, true, oStringBuilder (vr p3) (vi 0) (vi x3)) :: (p3, true, ar ad_p3 .byte (lm l2)) :: F) (fun v D' => (Cd .le ((x3 + x2) - x2) (0 : Int32) ∧ (((put l2 x3.toInt.toNat l1 x1.toInt.toNat x2.toInt.toNat)).length : Int) = x2.toInt ∧ v = some (vr p1) ∧ (p3, true, ar ad_p3 .byte (lm (put l2 x3.toInt.toNat l1 x1.toInt.toNat x2.toInt.toNat))) :: (p1, true, oStringBuilder (vr p3) (vi 0) (vi (x3 + x2))) :: F = D') ∨ (∃ a2 : Addr, ¬ Cd .le ((x3 + x2) - x2) (0 : Int32) ∧ Cd .lt ((x3 + x2) - x2) (x2 + (2 : Int32)) ∧ ¬ Cd .gt x2 (x2 + (x2 + (2 : Int32))) ∧ (((put (cpl l2 (0 : Int32).toInt.toNat (List.replicate (x2 + (x2 + (2 : Int32))).toInt.toNat (0 : Int32)) (0 : Int32).toInt.toNat x2.toInt.toNat) x3.toInt.toNat l1 x1.toInt.toNat x2.toInt.toNat)).length : Int) = (x2 + (x2 + (2 : Int32))).toInt ∧ v = some (vr p1) ∧ (a2, true, ar "[B" .byte (lm (put (cpl l2 (0 : Int32).toInt.toNat (List.replicate (x2 + (x2 + (2 : Int32))).toInt.toNat (0 : Int32)) (0 : Int32).toInt.toNat x2.toInt.toNat) x3.toInt.toNat l1 x1.toInt.toNat x2.toInt.toNat))) :: (p1, true, oStringBuilder (vr a2) (vi 0) (vi (x3 + x2))) :: (p3, true, ar ad_p3 .byte (lm l2)) :: F = D')) := by
  refine Con.of (ls := #[rv p1, rv p2, iv x1, iv x2]) (by decide +kernel) rfl ?_
  refine W.aloadN d14_0 rfl rfl ?_
  refine W.aloadN d14_1 rfl rfl ?_
  refine W.iloadN d14_2 rfl ?_
  refine W.iloadN d14_3 rfl ?_
  refine W.callUp (as := [(vr p2), (vi x1), (vi x2)]) 0 [] d14_4 (wq hw 115 rfl) (same_self (by rfl) (by decide) (wq hw 116 rfl) (wq hw 129 rfl) (wq hw 131 rfl)) (wq hw 116 rfl) (wq hw 117 rfl) (by decide) (wq hw 102 rfl) (wq hw 119 rfl) (Hp.ins m0) (c14_append hw hs (hx1 := hx1) (hx2 := hx2) (hx3 := (by have := a_add x1 x2; have := q4; omega)) (hr0 := by have := a_add x1 x2; have := q4; omega) (hr1 := by have := a_add x1 x2; have := q4; omega) (l1 := l1) (hl_l1 := hl_l1) (hb_l1 := hb_l1) (l2 := l2) (hl_l2 := hl_l2) (mp2 := mp2)) pd__CII_Ljava_lang_AbstractStringBuilder_ rfl rfl rfl rfl (by decide) (fun v D' h => ?_)
  rcases h with ⟨h1, hl1, rfl, rfl⟩ | ⟨a2, h2, h3, h4, hl3, rfl, rfl⟩
  ·
   have ih1 := t_le h1
   show W _ _ _ _ _ _ _ _ _ _ _ _ 7 _ [(vr p1)]
   refine W.popv d14_7 rfl ?_
   refine W.aloadN d14_8 rfl rfl ?_
   exact W.areturn d14_9 rfl rfl rfl (by decide) (Or.inl ⟨h1, hl1, rfl, rfl⟩)
  ·
   have ih2 := f_le h2
   have ih3 := t_lt h3
   have ih4 := f_gt h4
   show W _ _ _ _ _ _ _ _ _ _ _ _ 7 _ [(vr p1)]
   refine W.popv d14_7 rfl ?_
   refine W.aloadN d14_8 rfl rfl ?_
   exact W.areturn d14_9 rfl rfl rfl (by decide) (Or.inr ⟨a2, h2, h3, h4, hl3, rfl, rfl⟩)
theorem pd__CII_Ljava_lang_StringBuilder_ : parseMethodDescriptor "([CII)Ljava/lang/StringBuilder;" = some ⟨[(.array .char), .int, .int], some (.object "java/lang/StringBuilder")⟩ := by decide +kernel
theorem d11_29 : decode prog_64_method_12_code 29 = .ok (.pop, 1) := by decide +kernel
theorem d11_30 : decode prog_64_method_12_code 30 = .ok (.return_, 1) := by decide +kernel
abbrev y24 : MethodName := ⟨"com/example/montaje/montaje/xml/XmlElement", "appendText", "([CII)V"⟩
abbrev y24b : ByteArray := prog_64_method_12_code
abbrev y24r : Option Jvm.ClassFile.FieldType := (Option.none : Option Jvm.ClassFile.FieldType)
theorem c10_appendText {Z a0} (hw : HW a0 Z) (hs : SF Z) {p1 p2 : Addr} {x1 : Int32} (hx1 : 0 ≤ x1.toInt ∧ x1.toInt ≤ 7) {x2 : Int32} (hx2 : 0 ≤ x2.toInt ∧ x2.toInt ≤ 7) {l1 : List Int32} (hl_l1 : (l1.length : Int) = (4 : Int32).toInt) (hb_l1 : ∀ x ∈ l1, 0 ≤ x.toInt ∧ x.toInt ≤ 255) (hr0 : (x1 + x2).toInt ≤ (4 : Int32).toInt) {f_p1_0 f_p1_1 f_p1_2 f_p1_3 f_p1_4 f_p1_5 f_p1_6 : Value} {w_p2 : Bool} {ad_p2 : String} {F : List Ent} (mp2 : (p2, w_p2, ar ad_p2 .char (lm l1)) ∈ F) : Con Z EL y24 y24b 4 y24r (rmm 6 3 66 108) [(vr p1), (vr p2), (vi x1), (vi x2)] ((p1, true, oXmlElement f_p1_0 f_p1_1 f_p1_2 f_p1_3 f_p1_4 f_p1_5 f_p1_6 .null) :: F) (fun v D' => (∃ a1 a2 : Addr, Cd .le (((0 : Int32) + x2) - x2) (0 : Int32) ∧ (((put (List.replicate x2.toInt.toNat (0 : Int32)) (0 : Int32).toInt.toNat l1 x1.toInt.toNat x2.toInt.toNat)).length : Int) = x2.toInt ∧ v = none ∧ (a2, true, ar "[B" .byte (lm (put (List.replicate x2.toInt.toNat (0 : Int32)) (0 : Int32).toInt.toNat l1 x1.toInt.toNat x2.toInt.toNat))) :: (a1, true, oStringBuilder (vr a2) (vi 0) (vi ((0 : Int32) + x2))) :: (p1, true, oXmlElement f_p1_0 f_p1_1 f_p1_2 f_p1_3 f_p1_4 f_p1_5 f_p1_6 (vr a1)) :: F = D')) := by
  refine Con.of (ls := #[rv p1, rv p2, iv x1, iv x2]) (by decide +kernel) rfl ?_
  refine W.aloadN d11_0 rfl rfl ?_
  refine W.getf d11_1 (wq hw 62 rfl) Via.refl m0 m7 ?_
  refine W.ifnonnullN d11_4 ?_
  refine W.aloadN d11_7 rfl rfl ?_
  refine W.new d11_8 (wq hw 92 rfl) (wq hw 93 rfl) (wq hw 94 rfl) (laStringBuilder hw) (by decide) (by decide) (fun a1 => ?_)
  show W _ _ _ _ _ _ _ _ _ _ _ _ 11 _ [(vr a1), (vr p1)]
  refine W.dup d11_11 rfl ?_
  refine W.iloadN d11_12 rfl ?_
  refine W.callI (as := [(vi x2)]) 2 [(vr a1), (vr p1)] d11_13 rfl (wq hw 95 rfl) (wq hw 96 rfl) (wq hw 94 rfl) (wq hw 97 rfl) (c11_init hw hs (hx1 := hx2)) (by decide) pd_I_V rfl rfl rfl rfl (by decide) (fun v D' h => ?_)
  obtain ⟨a2, hl3, rfl, rfl⟩ := h
  show W _ _ _ _ _ _ _ _ _ _ _ _ 16 _ [(vr a1), (vr p1)]
  refine W.putf (D' := (a2, true, ar "[B" .byte (lm (List.replicate x2.toInt.toNat (0 : Int32)))) :: (a1, true, oStringBuilder (vr a2) (vi 0) (vi 0)) :: (p1, true, oXmlElement f_p1_0 f_p1_1 f_p1_2 f_p1_3 f_p1_4 f_p1_5 f_p1_6 (vr a1)) :: F) 2 7 d11_16 (wq hw 62 rfl) Via.refl rfl rfl (Or.inl (wq hw 63 rfl)) (wq hw 2 rfl) pfLjava_lang_StringBuilder_ rfl rfl rfl ?_
  refine W.aloadN d11_19 rfl rfl ?_
  refine W.getf d11_20 (wq hw 62 rfl) Via.refl m2 m7 ?_
  refine W.aloadN d11_23 rfl rfl ?_
  refine W.iloadN d11_24 rfl ?_
  refine W.iloadN d11_25 rfl ?_
  refine W.front 1 (D' := (a1, true, oStringBuilder (vr a2) (vi 0) (vi 0)) :: (a2, true, ar "[B" .byte (lm (List.replicate x2.toInt.toNat (0 : Int32)))) :: (p1, true, oXmlElement f_p1_0 f_p1_1 f_p1_2 f_p1_3 f_p1_4 f_p1_5 f_p1_6 (vr a1)) :: F) rfl rfl ?_
  refine W.callV (as := [(vr p2), (vi x1), (vi x2)]) 0 [] d11_26 (wq hw 110 rfl) (wq hw 111 rfl) (wq hw 113 rfl) (wq hw 113 rfl) (wq hw 112 rfl) (wq hw 94 rfl) (wq hw 114 rfl) (Hp.exa m0) (c13_append hw hs (hx1 := hx1) (hx2 := hx2) (hx3 := (by decide)) (hr0 := by have := a_add x1 x2; have := q4; omega) (hr1 := by have := q0; have := a_add x1 x2; have := q4; omega) (l1 := l1) (hl_l1 := hl_l1) (hb_l1 := hb_l1) (l2 := (List.replicate x2.toInt.toNat (0 : Int32))) (hl_l2 := hl3) (mp2 := (mS mp2))) (by decide) pd__CII_Ljava_lang_StringBuilder_ rfl rfl rfl rfl (by decide) (fun v D' h => ?_)
  rcases h with ⟨h1, hl4, rfl, rfl⟩ | ⟨a5, h2, h3, h4, hl6, rfl, rfl⟩
  ·
   have ih1 := t_le h1
   show W _ _ _ _ _ _ _ _ _ _ _ _ 29 _ [(vr a1)]
   refine W.popv d11_29 rfl ?_
   exact W.return_ d11_30 rfl (by decide) ⟨a1, a2, h1, hl4, rfl, rfl⟩
  ·
   exact absurd h2 (Classical.not_not.mpr (y_le (by have := q0; have := a_add (0 : Int32) x2; have := a_sub ((0 : Int32) + x2) x2; have := a_add x1 x2; have := q4; omega)))
theorem d6_12 : decode prog_64_method_10_code 12 = .ok (.aload_n 0, 1) := by decide +kernel
theorem d6_13 : decode prog_64_method_10_code 13 = .ok (.getfield 55, 3) := by decide +kernel
theorem d6_16 : decode prog_64_method_10_code 16 = .ok (.invokevirtual 61, 3) := by decide +kernel
theorem d26_0 : decode jdk_67_method_42_code 0 = .ok (.new 18, 3) := by decide +kernel
theorem laString {Z a0} (hw : HW a0 Z) : LaidAll Z a0 "java/lang/String" [("java/lang/String", "value", "[B", .null), ("java/lang/String", "coder", "B", (vi 0))] := ⟨⟨Or.inr (wq hw 8 rfl), (.array .byte), by decide, rfl⟩, ⟨⟨Or.inr (wq hw 9 rfl), .byte, by decide, rfl⟩, trivial⟩⟩
theorem d26_3 : decode jdk_67_method_42_code 3 = .ok (.dup, 1) := by decide +kernel
theorem d26_4 : decode jdk_67_method_42_code 4 = .ok (.aload_n 0, 1) := by decide +kernel
theorem d26_5 : decode jdk_67_method_42_code 5 = .ok (.invokespecial 137, 3) := by decide +kernel
theorem d27_0 : decode jdk_42_method_53_code 0 = .ok (.aload_n 0, 1) := by decide +kernel
theorem d27_1 : decode jdk_42_method_53_code 1 = .ok (.aload_n 1, 1) := by decide +kernel
theorem d27_2 : decode jdk_42_method_53_code 2 = .ok (.aconst_null, 1) := by decide +kernel
theorem d27_3 : decode jdk_42_method_53_code 3 = .ok (.invokespecial 489, 3) := by decide +kernel
theorem d28_0 : decode jdk_42_method_150_code 0 = .ok (.aload_n 0, 1) := by decide +kernel
theorem d28_1 : decode jdk_42_method_150_code 1 = .ok (.invokespecial 1, 3) := by decide +kernel
theorem d28_4 : decode jdk_42_method_150_code 4 = .ok (.aload_n 1, 1) := by decide +kernel
theorem d28_5 : decode jdk_42_method_150_code 5 = .ok (.invokevirtual 552, 3) := by decide +kernel
theorem d29_0 : decode jdk_68_method_64_code 0 = .ok (.aload_n 0, 1) := by decide +kernel
theorem d29_1 : decode jdk_68_method_64_code 1 = .ok (.getfield 15, 3) := by decide +kernel
theorem d29_4 : decode jdk_68_method_64_code 4 = .ok (.areturn, 1) := by decide +kernel
abbrev y25 : MethodName := ⟨"java/lang/AbstractStringBuilder", "getValue", "()[B"⟩
abbrev y25b : ByteArray := jdk_68_method_64_code
abbrev y25r : Option Jvm.ClassFile.FieldType := (Option.some (Jvm.ClassFile.FieldType.array Jvm.ClassFile.FieldType.byte))
theorem c30_getValue {Z a0} (hw : HW a0 Z) (hs : SF Z) {p1 p2 : Addr} {f_p1_1 f_p1_2 : Value} {w_p1 : Bool} {F : List Ent} (mp1 : (p1, w_p1, oStringBuilder (vr p2) f_p1_1 f_p1_2) ∈ F) : Con Z EL y25 y25b 1 y25r (rmm 0 0 0 0) [(vr p1)] (F) (fun v D' => (v = some (vr p2) ∧ F = D')) := by
  refine Con.of (ls := #[rv p1]) (by decide +kernel) rfl ?_
  refine W.aloadN d29_0 rfl rfl ?_
  refine W.getf d29_1 (wq hw 106 rfl) Via.refl mp1 m0 ?_
  exact W.areturn d29_4 rfl rfl rfl (by decide) ⟨rfl, rfl⟩
theorem pd___B : parseMethodDescriptor "()[B" = some ⟨[], some (.array .byte)⟩ := by decide +kernel
theorem d28_8 : decode jdk_42_method_150_code 8 = .ok (.astore_n 3, 1) := by decide +kernel
theorem d28_9 : decode jdk_42_method_150_code 9 = .ok (.aload_n 1, 1) := by decide +kernel
theorem d28_10 : decode jdk_42_method_150_code 10 = .ok (.invokevirtual 549, 3) := by decide +kernel
theorem d30_0 : decode jdk_67_method_93_code 0 = .ok (.aload_n 0, 1) := by decide +kernel
theorem d30_1 : decode jdk_67_method_93_code 1 = .ok (.invokespecial 343, 3) := by decide +kernel
theorem d31_0 : decode jdk_68_method_6_code 0 = .ok (.aload_n 0, 1) := by decide +kernel
theorem d31_1 : decode jdk_68_method_6_code 1 = .ok (.getfield 79, 3) := by decide +kernel
theorem d31_4 : decode jdk_68_method_6_code 4 = .ok (.ireturn, 1) := by decide +kernel
abbrev y26 : MethodName := ⟨"java/lang/AbstractStringBuilder", "length", "()I"⟩
abbrev y26b : ByteArray := jdk_68_method_6_code
abbrev y26r : Option Jvm.ClassFile.FieldType := (Option.some Jvm.ClassFile.FieldType.int)
theorem c32_length {Z a0} (hw : HW a0 Z) (hs : SF Z) {p1 : Addr} {x1 : Int32} (hx1 : 0 ≤ x1.toInt ∧ x1.toInt ≤ 7) {f_p1_0 f_p1_1 : Value} {w_p1 : Bool} {F : List Ent} (mp1 : (p1, w_p1, oStringBuilder f_p1_0 f_p1_1 (vi x1)) ∈ F) : Con Z EL y26 y26b 1 y26r (rmm 0 0 0 0) [(vr p1)] (F) (fun v D' => (v = some (vi x1) ∧ F = D')) := by
  refine Con.of (ls := #[rv p1]) (by decide +kernel) rfl ?_
  refine W.aloadN d31_0 rfl rfl ?_
  refine W.getf d31_1 (wq hw 126 rfl) Via.refl mp1 m2 ?_
  exact W.ireturn d31_4 rfl (Or.inl rfl) rfl (by decide) ⟨rfl, rfl⟩
theorem d30_4 : decode jdk_67_method_93_code 4 = .ok (.ireturn, 1) := by decide +kernel
abbrev y27 : MethodName := ⟨"java/lang/StringBuilder", "length", "()I"⟩
abbrev y27b : ByteArray := jdk_67_method_93_code
abbrev y27r : Option Jvm.ClassFile.FieldType := (Option.some Jvm.ClassFile.FieldType.int)
theorem c31_length {Z a0} (hw : HW a0 Z) (hs : SF Z) {p1 : Addr} {x1 : Int32} (hx1 : 0 ≤ x1.toInt ∧ x1.toInt ≤ 7) {f_p1_0 f_p1_1 : Value} {w_p1 : Bool} {F : List Ent} (mp1 : (p1, w_p1, oStringBuilder f_p1_0 f_p1_1 (vi x1)) ∈ F) : Con Z EL y27 y27b 1 y27r (rmm 1 0 0 12) [(vr p1)] (F) (fun v D' => (v = some (vi x1) ∧ F = D')) := by
  refine Con.of (ls := #[rv p1]) (by decide +kernel) rfl ?_
  refine W.aloadN d30_0 rfl rfl ?_
  refine W.callUp (as := []) 0 [] d30_1 (wq hw 198 rfl) (same_self (by rfl) (by decide) (wq hw 194 rfl) (wq hw 129 rfl) (wq hw 131 rfl)) (wq hw 194 rfl) (wq hw 117 rfl) (by decide) (wq hw 102 rfl) (wq hw 199 rfl) (Hp.ins mp1) (c32_length hw hs (hx1 := hx1) (mp1 := mp1)) pd__I rfl rfl rfl rfl (by decide) (fun v D' h => ?_)
  obtain ⟨rfl, rfl⟩ := h
  show W _ _ _ _ _ _ _ _ _ _ _ _ 4 _ [(vi x1)]
  exact W.ireturn d30_4 rfl (Or.inl rfl) rfl (by decide) ⟨rfl, rfl⟩
theorem d28_13 : decode jdk_42_method_150_code 13 = .ok (.istore 4, 2) := by decide +kernel
theorem d28_15 : decode jdk_42_method_150_code 15 = .ok (.aload_n 1, 1) := by decide +kernel
theorem d28_16 : decode jdk_42_method_150_code 16 = .ok (.invokevirtual 1047, 3) := by decide +kernel
theorem d28_19 : decode jdk_42_method_150_code 19 = .ok (.ifCond .eq 22, 3) := by decide +kernel
theorem d28_22 : decode jdk_42_method_150_code 22 = .ok (.aload_n 0, 1) := by decide +kernel
theorem d28_23 : decode jdk_42_method_150_code 23 = .ok (.iconst 0, 1) := by decide +kernel
theorem d28_24 : decode jdk_42_method_150_code 24 = .ok (.putfield 15, 3) := by decide +kernel
theorem d28_27 : decode jdk_42_method_150_code 27 = .ok (.aload_n 0, 1) := by decide +kernel
theorem d28_28 : decode jdk_42_method_150_code 28 = .ok (.aload_n 3, 1) := by decide +kernel
theorem d28_29 : decode jdk_42_method_150_code 29 = .ok (.iconst 0, 1) := by decide +kernel
theorem d28_30 : decode jdk_42_method_150_code 30 = .ok (.iload 4, 2) := by decide +kernel
theorem d28_32 : decode jdk_42_method_150_code 32 = .ok (.invokestatic 54, 3) := by decide +kernel
theorem d32_0 : decode jdk_65_method_132_code 0 = .ok (.iload_n 1, 1) := by decide +kernel
theorem d32_1 : decode jdk_65_method_132_code 1 = .ok (.ifCond .ne 9, 3) := by decide +kernel
theorem d32_4 : decode jdk_65_method_132_code 4 = .ok (.iload_n 2, 1) := by decide +kernel
theorem d32_5 : decode jdk_65_method_132_code 5 = .ok (.aload_n 0, 1) := by decide +kernel
theorem d32_6 : decode jdk_65_method_132_code 6 = .ok (.arraylength, 1) := by decide +kernel
theorem d32_7 : decode jdk_65_method_132_code 7 = .ok (.if_icmp .eq 10, 3) := by decide +kernel
theorem d32_17 : decode jdk_65_method_132_code 17 = .ok (.aload_n 0, 1) := by decide +kernel
theorem d32_18 : decode jdk_65_method_132_code 18 = .ok (.invokevirtual 310, 3) := by decide +kernel
theorem d32_21 : decode jdk_65_method_132_code 21 = .ok (.checkcast 311, 3) := by decide +kernel
theorem d32_24 : decode jdk_65_method_132_code 24 = .ok (.areturn, 1) := by decide +kernel
theorem d32_10 : decode jdk_65_method_132_code 10 = .ok (.aload_n 0, 1) := by decide +kernel
theorem d32_11 : decode jdk_65_method_132_code 11 = .ok (.iload_n 1, 1) := by decide +kernel
theorem d32_12 : decode jdk_65_method_132_code 12 = .ok (.iload_n 2, 1) := by decide +kernel
theorem d32_13 : decode jdk_65_method_132_code 13 = .ok (.invokestatic 339, 3) := by decide +kernel
theorem d33_0 : decode jdk_65_method_133_code 0 = .ok (.iload_n 1, 1) := by decide +kernel
theorem d33_1 : decode jdk_65_method_133_code 1 = .ok (.iload_n 2, 1) := by decide +kernel
theorem d33_2 : decode jdk_65_method_133_code 2 = .ok (.invokestatic 343, 3) := by decide +kernel
theorem d34_0 : decode jdk_65_method_131_code 0 = .ok (.iload_n 1, 1) := by decide +kernel
theorem d34_1 : decode jdk_65_method_131_code 1 = .ok (.iload_n 0, 1) := by decide +kernel
theorem d34_2 : decode jdk_65_method_131_code 2 = .ok (.if_icmp .ge 35, 3) := by decide +kernel
theorem d34_37 : decode jdk_65_method_131_code 37 = .ok (.return_, 1) := by decide +kernel
abbrev y28 : MethodName := ⟨"java/util/Arrays", "checkLength", "(II)V"⟩
abbrev y28b : ByteArray := jdk_65_method_131_code
abbrev y28r : Option Jvm.ClassFile.FieldType := (Option.none : Option Jvm.ClassFile.FieldType)
theorem c35_checkLength {Z a0} (hw : HW a0 Z) (hs : SF Z) {x1 : Int32} (hx1 : 0 ≤ x1.toInt ∧ x1.toInt ≤ 7) {F : List Ent} : Con Z EL y28 y28b 2 y28r (rmm 0 0 0 0) [(vi 0), (vi x1)] (F) (fun v D' => (v = none ∧ F = D')) := by
  refine Con.of (ls := #[iv 0, iv x1]) (by decide +kernel) rfl ?_
  refine W.iloadN d34_0 rfl ?_
  refine W.iloadN d34_1 rfl ?_
  refine W.icmpY 37 d34_2 (y_ge (by have := q0; omega)) (by decide) ?_
  exact W.return_ d34_37 rfl (by decide) ⟨rfl, rfl⟩
theorem pd_II_V : parseMethodDescriptor "(II)V" = some ⟨[.int, .int], none⟩ := by decide +kernel
theorem d33_5 : decode jdk_65_method_133_code 5 = .ok (.iload_n 2, 1) := by decide +kernel
theorem d33_6 : decode jdk_65_method_133_code 6 = .ok (.iload_n 1, 1) := by decide +kernel
theorem d33_7 : decode jdk_65_method_133_code 7 = .ok (.isub, 1) := by decide +kernel
theorem d33_8 : decode jdk_65_method_133_code 8 = .ok (.istore_n 3, 1) := by decide +kernel
theorem d33_9 : decode jdk_65_method_133_code 9 = .ok (.iload_n 3, 1) := by decide +kernel
theorem d33_10 : decode jdk_65_method_133_code 10 = .ok (.newarray .byte, 2) := by decide +kernel
theorem d33_12 : decode jdk_65_method_133_code 12 = .ok (.astore 4, 2) := by decide +kernel
theorem d33_14 : decode jdk_65_method_133_code 14 = .ok (.aload_n 0, 1) := by decide +kernel
theorem d33_15 : decode jdk_65_method_133_code 15 = .ok (.iload_n 1, 1) := by decide +kernel
theorem d33_16 : decode jdk_65_method_133_code 16 = .ok (.aload 4, 2) := by decide +kernel
theorem d33_18 : decode jdk_65_method_133_code 18 = .ok (.iconst 0, 1) := by decide +kernel
theorem d33_19 : decode jdk_65_method_133_code 19 = .ok (.aload_n 0, 1) := by decide +kernel
theorem d33_20 : decode jdk_65_method_133_code 20 = .ok (.arraylength, 1) := by decide +kernel
theorem d33_21 : decode jdk_65_method_133_code 21 = .ok (.iload_n 1, 1) := by decide +kernel
theorem d33_22 : decode jdk_65_method_133_code 22 = .ok (.isub, 1) := by decide +kernel
theorem d33_23 : decode jdk_65_method_133_code 23 = .ok (.iload_n 3, 1) := by decide +kernel
theorem d33_24 : decode jdk_65_method_133_code 24 = .ok (.invokestatic 304, 3) := by decide +kernel
theorem d33_27 : decode jdk_65_method_133_code 27 = .ok (.invokestatic 150, 3) := by decide +kernel
theorem d33_30 : decode jdk_65_method_133_code 30 = .ok (.aload 4, 2) := by decide +kernel
theorem d33_32 : decode jdk_65_method_133_code 32 = .ok (.areturn, 1) := by decide +kernel
abbrev y29 : MethodName := ⟨"java/util/Arrays", "copyOfRangeByte", "([BII)[B"⟩
abbrev y29b : ByteArray := jdk_65_method_133_code
abbrev y29r : Option Jvm.ClassFile.FieldType := (Option.some (Jvm.ClassFile.FieldType.array Jvm.ClassFile.FieldType.byte))
theorem c34_copyOfRangeByte {Z a0} (hw : HW a0 Z) (hs : SF Z) {p1 : Addr} {x1 : Int32} (hx1 : 0 ≤ x1.toInt ∧ x1.toInt ≤ 7) {x2 : Int32} (hx2 : 0 ≤ x2.toInt ∧ x2.toInt ≤ 7) {l1 : List Int32} (hl_l1 : (l1.length : Int) = x2.toInt) (hr0 : x1.toInt < x2.toInt) {w_p1 : Bool} {ad_p1 : String} {F : List Ent} (mp1 : (p1, w_p1, ar ad_p1 .byte (lm l1)) ∈ F) : Con Z EL y29 y29b 5 y29r (rmm 1 1 31 48) [(vr p1), (vi 0), (vi x1)] (F) (fun v D' => (∃ a1 : Addr, Cd .gt x2 x1 ∧ (((cpl l1 (0 : Int32).toInt.toNat (List.replicate x1.toInt.toNat (0 : Int32)) (0 : Int32).toInt.toNat x1.toInt.toNat)).length : Int) = x1.toInt ∧ v = some (vr a1) ∧ (a1, true, ar "[B" .byte (lm (cpl l1 (0 : Int32).toInt.toNat (List.replicate x1.toInt.toNat (0 : Int32)) (0 : Int32).toInt.toNat x1.toInt.toNat))) :: F = D')) := by
  refine Con.of (ls := #[rv p1, iv 0, iv x1, uu, uu]) (by decide +kernel) rfl ?_
  refine W.iloadN d33_0 rfl ?_
  refine W.iloadN d33_1 rfl ?_
  refine W.callS (as := [(vi 0), (vi x1)]) 0 [] d33_2 (wq hw 207 rfl) (wq hw 208 rfl) (wq hw 164 rfl) (wq hw 209 rfl) (c35_checkLength hw hs (hx1 := hx1)) (by decide) pd_II_V rfl rfl rfl rfl (by decide) (fun v D' h => ?_)
  obtain ⟨rfl, rfl⟩ := h
  show W _ _ _ _ _ _ _ _ _ _ _ _ 5 _ []
  refine W.iloadN d33_5 rfl ?_
  refine W.iloadN d33_6 rfl ?_
  refine W.isubK x1 d33_7 (z_sub0 x1) ?_
  refine W.istoreN (ls' := #[rv p1, iv 0, iv x1, iv x1, uu]) d33_8 rfl ?_
  refine W.iloadN d33_9 rfl ?_
  have hl2 := len_rep (z := x1) (by have := q0; omega)
  refine W.newarrB 31 d33_10 (wq hw 7 rfl) (by have := q0; have := q31; omega) (by decide) (by decide) (fun a1 => ?_)
  show W _ _ _ _ _ _ _ _ _ _ _ _ 12 _ [(vr a1)]
  refine W.astore (ls' := #[rv p1, iv 0, iv x1, iv x1, rv a1]) d33_12 rfl rfl ?_
  refine W.aloadN d33_14 rfl rfl ?_
  refine W.iloadN d33_15 rfl ?_
  refine W.aload 4 d33_16 rfl rfl ?_
  refine W.iconst (0) d33_18 (by decide) ?_
  refine W.aloadN d33_19 rfl rfl ?_
  refine W.alenS (l := l1) (z := x2) d33_20 (mS mp1) hl_l1 ?_
  refine W.iloadN d33_21 rfl ?_
  refine W.isubK x2 d33_22 (z_sub0 x2) ?_
  refine W.iloadN d33_23 rfl ?_
  refine W.callS (as := [(vi x2), (vi x1)]) 4 [(vi 0), (vr a1), (vi 0), (vr p1)] d33_24 (wq hw 166 rfl) (wq hw 167 rfl) (wq hw 158 rfl) (wq hw 168 rfl) (c21_min hw hs (hx1 := hx2) (hx2 := (by omega))) (by decide) pd_II_I rfl rfl rfl rfl (by decide) (fun v D' h => ?_)
  rcases h with ⟨h1, rfl, rfl⟩ | ⟨h2, rfl, rfl⟩
  ·
   have ih1 := t_gt h1
   show W _ _ _ _ _ _ _ _ _ _ _ _ 27 _ [(vi x1), (vi 0), (vr a1), (vi 0), (vr p1)]
   have hl3 := len_cplI (l1 := l1) (l2 := (List.replicate x1.toInt.toNat (0 : Int32))) (s := (0 : Int32)) (d := (0 : Int32)) (n := x1) hl_l1 hl2 (by have := q0; omega)
   refine W.cpyS (l1 := l1) (l2 := (List.replicate x1.toInt.toNat (0 : Int32))) (D' := (a1, true, ar "[B" .byte (lm (cpl l1 (0 : Int32).toInt.toNat (List.replicate x1.toInt.toNat (0 : Int32)) (0 : Int32).toInt.toNat x1.toInt.toNat))) :: F) 0 0 d33_27 (wq hw 169 rfl) (wq hw 172 rfl) (wq hw 170 rfl) (wq hw 171 rfl) (mS mp1) rfl rfl (by have := hl_l1; have := hl2; have := q0; omega) rfl rfl (by decide) rfl ?_
   refine W.aload 4 d33_30 rfl rfl ?_
   exact W.areturn d33_32 rfl rfl rfl (by decide) ⟨a1, h1, hl3, rfl, rfl⟩
  ·
   exact absurd h2 (Classical.not_not.mpr (y_gt (by omega)))
theorem pd__BII__B : parseMethodDescriptor "([BII)[B" = some ⟨[(.array .byte), .int, .int], some (.array .byte)⟩ := by decide +kernel
theorem d32_16 : decode jdk_65_method_132_code 16 = .ok (.areturn, 1) := by decide +kernel
abbrev y30 : MethodName := ⟨"java/util/Arrays", "copyOfRange", "([BII)[B"⟩
abbrev y30b : ByteArray := jdk_65_method_132_code
abbrev y30r : Option Jvm.ClassFile.FieldType := (Option.some (Jvm.ClassFile.FieldType.array Jvm.ClassFile.FieldType.byte))
theorem c33_copyOfRange {Z a0} (hw : HW a0 Z) (hs : SF Z) {p1 : Addr} {x1 : Int32} (hx1 : 0 ≤ x1.toInt ∧ x1.toInt ≤ 7) {x2 : Int32} (hx2 : 0 ≤ x2.toInt ∧ x2.toInt ≤ 7) {l1 : List Int32} (hl_l1 : (l1.length : Int) = x2.toInt) (hr0 : x1.toInt ≤ x2.toInt) {w_p1 : Bool} {F : List Ent} (mp1 : (p1, w_p1, ar "[B" .byte (lm l1)) ∈ F) : Con Z EL y30 y30b 3 y30r (rmm 2 1 31 64) [(vr p1), (vi 0), (vi x1)] (F) (fun v D' => (∃ a1 : Addr, Cd .eq x1 x2 ∧ v = some (vr a1) ∧ (a1, true, ar "[B" .byte (lm l1)) :: F = D') ∨ (∃ a2 : Addr, ¬ Cd .eq x1 x2 ∧ Cd .gt x2 x1 ∧ (((cpl l1 (0 : Int32).toInt.toNat (List.replicate x1.toInt.toNat (0 : Int32)) (0 : Int32).toInt.toNat x1.toInt.toNat)).length : Int) = x1.toInt ∧ v = some (vr a2) ∧ (a2, true, ar "[B" .byte (lm (cpl l1 (0 : Int32).toInt.toNat (List.replicate x1.toInt.toNat (0 : Int32)) (0 : Int32).toInt.toNat x1.toInt.toNat))) :: F = D')) := by
  refine Con.of (ls := #[rv p1, iv 0, iv x1]) (by decide +kernel) rfl ?_
  refine W.iloadN d32_0 rfl ?_
  refine W.ifN d32_1 (n_ne (by decide)) ?_
  refine W.iloadN d32_4 rfl ?_
  refine W.aloadN d32_5 rfl rfl ?_
  refine W.alenS (l := l1) (z := x2) d32_6 mp1 hl_l1 ?_
  refine W.icmp 17 d32_7 (by decide) (fun h1 => ?_) (fun h1 => ?_)
  ·
   have ih1 := t_eq h1
   refine W.aloadN d32_17 rfl rfl ?_
   refine W.cloneS (l := l1) 0 31 d32_18 (wq hw 230 rfl) (wq hw 231 rfl) (wq hw 235 rfl) (wq hw 233 rfl) (wq hw 234 rfl) (wq hw 236 rfl) mp1 (by decide) (by have := hl_l1; have := q31; omega) rfl rfl (by decide) (fun a1 => ?_)
   show W _ _ _ _ _ _ _ _ _ _ _ _ 21 _ [(vr a1)]
   refine W.castY d32_21 (wq hw 237 rfl) (Hp.insA m0 (by decide)) ?_
   exact W.areturn d32_24 rfl rfl rfl (by decide) (Or.inl ⟨a1, h1, rfl, rfl⟩)
  ·
   have ih1 := f_eq h1
   refine W.aloadN d32_10 rfl rfl ?_
   refine W.iloadN d32_11 rfl ?_
   refine W.iloadN d32_12 rfl ?_
   refine W.callS (as := [(vr p1), (vi 0), (vi x1)]) 0 [] d32_13 (wq hw 204 rfl) (wq hw 205 rfl) (wq hw 164 rfl) (wq hw 206 rfl) (c34_copyOfRangeByte hw hs (hx1 := hx1) (hx2 := hx2) (hr0 := by omega) (l1 := l1) (hl_l1 := hl_l1) (mp1 := mp1)) (by decide) pd__BII__B rfl rfl rfl rfl (by decide) (fun v D' h => ?_)
   obtain ⟨a2, h2, hl3, rfl, rfl⟩ := h
   have ih2 := t_gt h2
   show W _ _ _ _ _ _ _ _ _ _ _ _ 16 _ [(vr a2)]
   exact W.areturn d32_16 rfl rfl rfl (by decide) (Or.inr ⟨a2, h1, h2, hl3, rfl, rfl⟩)
theorem d28_35 : decode jdk_42_method_150_code 35 = .ok (.putfield 9, 3) := by decide +kernel
theorem d28_38 : decode jdk_42_method_150_code 38 = .ok (.goto 59, 3) := by decide +kernel
theorem d28_97 : decode jdk_42_method_150_code 97 = .ok (.return_, 1) := by decide +kernel
abbrev y31 : MethodName := ⟨"java/lang/String", "<init>", "(Ljava/lang/AbstractStringBuilder;Ljava/lang/Void;)V"⟩
abbrev y31b : ByteArray := jdk_42_method_150_code
abbrev y31r : Option Jvm.ClassFile.FieldType := (Option.none : Option Jvm.ClassFile.FieldType)
theorem c29_init {Z a0} (hw : HW a0 Z) (hs : SF Z) {p1 p2 p3 : Addr} {x1 : Int32} (hx1 : 0 ≤ x1.toInt ∧ x1.toInt ≤ 7) {x2 : Int32} (hx2 : 0 ≤ x2.toInt ∧ x2.toInt ≤ 7) {l1 : List Int32} (hl_l1 : (l1.length : Int) = x2.toInt) (hr0 : x1.toInt ≤ x2.toInt) {w_p2 : Bool} {w_p3 : Bool} {F : List Ent} (mp2 : (p2, w_p2, oStringBuilder (vr p3) (vi 0) (vi x1)) ∈ F) (mp3 : (p3, w_p3, ar "[B" .byte (lm l1)) ∈ F) : Con Z EL y31 y31b 5 y31r (rmm 3 1 31 79) [(vr p1), (vr p2), .null] ((p1, true, oString .null (vi 0)) :: F) (fun v D' => (∃ a1 : Addr, Cd .eq x1 x2 ∧ v = none ∧ (a1, true, ar "[B" .byte (lm l1)) :: (p1, true, oString (vr a1) (vi 0)) :: F = D') ∨ (∃ a2 : Addr, ¬ Cd .eq x1 x2 ∧ Cd .gt x2 x1 ∧ (((cpl l1 (0 : Int32).toInt.toNat (List.replicate x1.toInt.toNat (0 : Int32)) (0 : Int32).toInt.toNat x1.toInt.toNat)).length : Int) = x1.toInt ∧ v = none ∧ (a2, true, ar "[B" .byte (lm (cpl l1 (0 : Int32).toInt.toNat (List.replicate x1.toInt.toNat (0 : Int32)) (0 : Int32).toInt.toNat x1.toInt.toNat))) :: (p1, true, oString (vr a2) (vi 0)) :: F = D')) := by
  refine Con.of (ls := #[rv p1, rv p2, .val .null, uu, uu]) (by decide +kernel) rfl ?_
  refine W.aloadN d28_0 rfl rfl ?_
  refine W.initO 0 d28_1 (wq hw 186 rfl) (wq hw 17 rfl) (wq hw 18 rfl) rfl rfl (by decide) ?_
  refine W.aloadN d28_4 rfl rfl ?_
  refine W.callV (as := []) 0 [] d28_5 (wq hw 187 rfl) (wq hw 188 rfl) (wq hw 190 rfl) (wq hw 190 rfl) (wq hw 189 rfl) (wq hw 102 rfl) (wq hw 191 rfl) (Hp.exa (mS mp2)) (c30_getValue hw hs (mp1 := (mS mp2))) (by decide) pd___B rfl rfl rfl rfl (by decide) (fun v D' h => ?_)
  obtain ⟨rfl, rfl⟩ := h
  show W _ _ _ _ _ _ _ _ _ _ _ _ 8 _ [(vr p3)]
  refine W.astoreN (ls' := #[rv p1, rv p2, .val .null, rv p3, uu]) d28_8 rfl rfl ?_
  refine W.aloadN d28_9 rfl rfl ?_
  refine W.callVN (as := []) 0 [] d28_10 (wq hw 192 rfl) (wq hw 193 rfl) (by rfl) (wq hw 129 rfl) (wq hw 131 rfl) (wq hw 195 rfl) (wq hw 196 rfl) (wq hw 94 rfl) (wq hw 197 rfl) (Hp.exa (mS mp2)) (c31_length hw hs (hx1 := hx1) (mp1 := (mS mp2))) (by decide) pd__I rfl rfl rfl rfl (by decide) (fun v D' h => ?_)
  obtain ⟨rfl, rfl⟩ := h
  show W _ _ _ _ _ _ _ _ _ _ _ _ 13 _ [(vi x1)]
  refine W.istore (ls' := #[rv p1, rv p2, .val .null, rv p3, iv x1]) d28_13 rfl ?_
  refine W.aloadN d28_15 rfl rfl ?_
  refine W.callV (as := []) 0 [] d28_16 (wq hw 200 rfl) (wq hw 139 rfl) (wq hw 141 rfl) (wq hw 141 rfl) (wq hw 140 rfl) (wq hw 102 rfl) (wq hw 142 rfl) (Hp.exa (mS mp2)) (c23_isLatin1 hw hs (mp1 := (mS mp2))) (by decide) pd__Z rfl rfl rfl rfl (by decide) (fun v D' h => ?_)
  obtain ⟨rfl, rfl⟩ := h
  show W _ _ _ _ _ _ _ _ _ _ _ _ 19 _ [(vi 1)]
  refine W.ifN d28_19 (n_eq (by decide)) ?_
  refine W.aloadN d28_22 rfl rfl ?_
  refine W.iconst (0) d28_23 (by decide) ?_
  refine W.putf (D' := (p1, true, oString .null (vi 0)) :: F) 0 1 d28_24 (wq hw 82 rfl) Via.refl rfl rfl (Or.inr ⟨(wq hw 9 rfl), rfl, rfl⟩) (wq hw 6 rfl) pfB (nw_byte (by decide)) (ft_byte (by decide)) rfl ?_
  refine W.aloadN d28_27 rfl rfl ?_
  refine W.aloadN d28_28 rfl rfl ?_
  refine W.iconst (0) d28_29 (by decide) ?_
  refine W.iload d28_30 rfl ?_
  refine W.callS (as := [(vr p3), (vi 0), (vi x1)]) 1 [(vr p1)] d28_32 (wq hw 201 rfl) (wq hw 202 rfl) (wq hw 164 rfl) (wq hw 203 rfl) (c33_copyOfRange hw hs (hx1 := hx1) (hx2 := hx2) (hr0 := by omega) (l1 := l1) (hl_l1 := hl_l1) (mp1 := (mS mp3))) (by decide) pd__BII__B rfl rfl rfl rfl (by decide) (fun v D' h => ?_)
  rcases h with ⟨a1, h1, rfl, rfl⟩ | ⟨a2, h2, h3, hl3, rfl, rfl⟩
  ·
   have ih1 := t_eq h1
   show W _ _ _ _ _ _ _ _ _ _ _ _ 35 _ [(vr a1), (vr p1)]
   refine W.putf (D' := (a1, true, ar "[B" .byte (lm l1)) :: (p1, true, oString (vr a1) (vi 0)) :: F) 1 0 d28_35 (wq hw 70 rfl) Via.refl rfl rfl (Or.inr ⟨(wq hw 8 rfl), rfl, rfl⟩) (wq hw 6 rfl) pf_B rfl rfl rfl ?_
   refine W.goto 97 d28_38 (by decide) ?_
   exact W.return_ d28_97 rfl (by decide) (Or.inl ⟨a1, h1, rfl, rfl⟩)
  ·
   have ih2 := f_eq h2
   have ih3 := t_gt h3
   show W _ _ _ _ _ _ _ _ _ _ _ _ 35 _ [(vr a2), (vr p1)]
   refine W.putf (D' := (a2, true, ar "[B" .byte (lm (cpl l1 (0 : Int32).toInt.toNat (List.replicate x1.toInt.toNat (0 : Int32)) (0 : Int32).toInt.toNat x1.toInt.toNat))) :: (p1, true, oString (vr a2) (vi 0)) :: F) 1 0 d28_35 (wq hw 70 rfl) Via.refl rfl rfl (Or.inr ⟨(wq hw 8 rfl), rfl, rfl⟩) (wq hw 6 rfl) pf_B rfl rfl rfl ?_
   refine W.goto 97 d28_38 (by decide) ?_
   exact W.return_ d28_97 rfl (by decide) (Or.inr ⟨a2, h2, h3, hl3, rfl, rfl⟩)
theorem pd_Ljava_lang_AbstractStringBuilder_Ljava_lang_Void__V : parseMethodDescriptor "(Ljava/lang/AbstractStringBuilder;Ljava/lang/Void;)V" = some ⟨[(.object "java/lang/AbstractStringBuilder"), (.object "java/lang/Void")], none⟩ := by decide +kernel
theorem d27_6 : decode jdk_42_method_53_code 6 = .ok (.return_, 1) := by decide +kernel
abbrev y32 : MethodName := ⟨"java/lang/String", "<init>", "(Ljava/lang/StringBuilder;)V"⟩
abbrev y32b : ByteArray := jdk_42_method_53_code
abbrev y32r : Option Jvm.ClassFile.FieldType := (Option.none : Option Jvm.ClassFile.FieldType)
theorem c28_init {Z a0} (hw : HW a0 Z) (hs : SF Z) {p1 p2 p3 : Addr} {x1 : Int32} (hx1 : 0 ≤ x1.toInt ∧ x1.toInt ≤ 7) {x2 : Int32} (hx2 : 0 ≤ x2.toInt ∧ x2.toInt ≤ 7) {l1 : List Int32} (hl_l1 : (l1.length : Int) = x2.toInt) (hr0 : x1.toInt ≤ x2.toInt) {w_p2 : Bool} {w_p3 : Bool} {F : List Ent} (mp2 : (p2, w_p2, oStringBuilder (vr p3) (vi 0) (vi x1)) ∈ F) (mp3 : (p3, w_p3, ar "[B" .byte (lm l1)) ∈ F) : Con Z EL y32 y32b 2 y32r (rmm 4 1 31 95) [(vr p1), (vr p2)] ((p1, true, oString .null (vi 0)) :: F) (fun v D' => (∃ a1 : Addr, Cd .eq x1 x2 ∧ v = none ∧ (a1, true, ar "[B" .byte (lm l1)) :: (p1, true, oString (vr a1) (vi 0)) :: F = D') ∨ (∃ a2 : Addr, ¬ Cd .eq x1 x2 ∧ Cd .gt x2 x1 ∧ (((cpl l1 (0 : Int32).toInt.toNat (List.replicate x1.toInt.toNat (0 : Int32)) (0 : Int32).toInt.toNat x1.toInt.toNat)).length : Int) = x1.toInt ∧ v = none ∧ (a2, true, ar "[B" .byte (lm (cpl l1 (0 : Int32).toInt.toNat (List.replicate x1.toInt.toNat (0 : Int32)) (0 : Int32).toInt.toNat x1.toInt.toNat))) :: (p1, true, oString (vr a2) (vi 0)) :: F = D')) := by
  refine Con.of (ls := #[rv p1, rv p2]) (by decide +kernel) rfl ?_
  refine W.aloadN d27_0 rfl rfl ?_
  refine W.aloadN d27_1 rfl rfl ?_
  refine W.aconstNull d27_2 ?_
  refine W.callI (as := [(vr p2), .null]) 0 [] d27_3 rfl (wq hw 183 rfl) (wq hw 184 rfl) (wq hw 5 rfl) (wq hw 185 rfl) (c29_init hw hs (hx1 := hx1) (hx2 := hx2) (hr0 := by omega) (l1 := l1) (hl_l1 := hl_l1) (mp2 := mp2) (mp3 := mp3)) (by decide) pd_Ljava_lang_AbstractStringBuilder_Ljava_lang_Void__V rfl rfl rfl rfl (by decide) (fun v D' h => ?_)
  rcases h with ⟨a1, h1, rfl, rfl⟩ | ⟨a2, h2, h3, hl3, rfl, rfl⟩
  ·
   have ih1 := t_eq h1
   show W _ _ _ _ _ _ _ _ _ _ _ _ 6 _ []
   exact W.return_ d27_6 rfl (by decide) (Or.inl ⟨a1, h1, rfl, rfl⟩)
  ·
   have ih2 := f_eq h2
   have ih3 := t_gt h3
   show W _ _ _ _ _ _ _ _ _ _ _ _ 6 _ []
   exact W.return_ d27_6 rfl (by decide) (Or.inr ⟨a2, h2, h3, hl3, rfl, rfl⟩)
theorem pd_Ljava_lang_StringBuilder__V : parseMethodDescriptor "(Ljava/lang/StringBuilder;)V" = some ⟨[(.object "java/lang/StringBuilder")], none⟩ := by decide +kernel
theorem d26_8 : decode jdk_67_method_42_code 8 = .ok (.areturn, 1) := by decide +kernel
abbrev y33 : MethodName := ⟨"java/lang/StringBuilder", "toString", "()Ljava/lang/String;"⟩
abbrev y33b : ByteArray := jdk_67_method_42_code
abbrev y33r : Option Jvm.ClassFile.FieldType := (Option.some (Jvm.ClassFile.FieldType.object "java/lang/String"))
theorem c27_toString {Z a0} (hw : HW a0 Z) (hs : SF Z) {p1 p2 : Addr} {x1 : Int32} (hx1 : 0 ≤ x1.toInt ∧ x1.toInt ≤ 7) {x2 : Int32} (hx2 : 0 ≤ x2.toInt ∧ x2.toInt ≤ 7) {l1 : List Int32} (hl_l1 : (l1.length : Int) = x2.toInt) (hr0 : x1.toInt ≤ x2.toInt) {w_p1 : Bool} {w_p2 : Bool} {F : List Ent} (mp1 : (p1, w_p1, oStringBuilder (vr p2) (vi 0) (vi x1)) ∈ F) (mp2 : (p2, w_p2, ar "[B" .byte (lm l1)) ∈ F) : Con Z EL y33 y33b 1 y33r (rmm 5 2 35 109) [(vr p1)] (F) (fun v D' => (∃ a1 a2 : Addr, Cd .eq x1 x2 ∧ v = some (vr a1) ∧ (a2, true, ar "[B" .byte (lm l1)) :: (a1, true, oString (vr a2) (vi 0)) :: F = D') ∨ (∃ a1 a3 : Addr, ¬ Cd .eq x1 x2 ∧ Cd .gt x2 x1 ∧ (((cpl l1 (0 : Int32).toInt.toNat (List.replicate x1.toInt.toNat (0 : Int32)) (0 : Int32).toInt.toNat x1.toInt.toNat)).length : Int) = x1.toInt ∧ v = some (vr a1) ∧ (a3, true, ar "[B" .byte (lm (cpl l1 (0 : Int32).toInt.toNat (List.replicate x1.toInt.toNat (0 : Int32)) (0 : Int32).toInt.toNat x1.toInt.toNat))) :: (a1, true, oString (vr a3) (vi 0)) :: F = D')) := by
  refine Con.of (ls := #[rv p1]) (by decide +kernel) rfl ?_
  refine W.new d26_0 (wq hw 178 rfl) (wq hw 6 rfl) (wq hw 5 rfl) (laString hw) (by decide) (by decide) (fun a1 => ?_)
  show W _ _ _ _ _ _ _ _ _ _ _ _ 3 _ [(vr a1)]
  refine W.dup d26_3 rfl ?_
  refine W.aloadN d26_4 rfl rfl ?_
  refine W.callI (as := [(vr p1)]) 1 [(vr a1)] d26_5 rfl (wq hw 179 rfl) (wq hw 180 rfl) (wq hw 5 rfl) (wq hw 182 rfl) (c28_init hw hs (hx1 := hx1) (hx2 := hx2) (hr0 := by omega) (l1 := l1) (hl_l1 := hl_l1) (mp2 := mp1) (mp3 := mp2)) (by decide) pd_Ljava_lang_StringBuilder__V rfl rfl rfl rfl (by decide) (fun v D' h => ?_)
  rcases h with ⟨a2, h1, rfl, rfl⟩ | ⟨a3, h2, h3, hl4, rfl, rfl⟩
  ·
   have ih1 := t_eq h1
   show W _ _ _ _ _ _ _ _ _ _ _ _ 8 _ [(vr a1)]
   exact W.areturn d26_8 rfl rfl rfl (by decide) (Or.inl ⟨a1, a2, h1, rfl, rfl⟩)
  ·
   have ih2 := f_eq h2
   have ih3 := t_gt h3
   show W _ _ _ _ _ _ _ _ _ _ _ _ 8 _ [(vr a1)]
   exact W.areturn d26_8 rfl rfl rfl (by decide) (Or.inr ⟨a1, a3, h2, h3, hl4, rfl, rfl⟩)
theorem c26_text {Z a0} (hw : HW a0 Z) (hs : SF Z) {p1 p6 p10 : Addr} {x1 : Int32} (hx1 : 0 ≤ x1.toInt ∧ x1.toInt ≤ 7) {x2 : Int32} (hx2 : 0 ≤ x2.toInt ∧ x2.toInt ≤ 7) {l1 : List Int32} (hl_l1 : (l1.length : Int) = x2.toInt) (hr0 : x1.toInt ≤ x2.toInt) {f_p1_0 f_p1_1 f_p1_2 f_p1_3 f_p1_4 f_p1_5 f_p1_6 : Value} {w_p1 : Bool} {w_p6 : Bool} {w_p10 : Bool} {F : List Ent} (mp1 : (p1, w_p1, oXmlElement f_p1_0 f_p1_1 f_p1_2 f_p1_3 f_p1_4 f_p1_5 f_p1_6 (vr p6)) ∈ F) (mp6 : (p6, w_p6, oStringBuilder (vr p10) (vi 0) (vi x1)) ∈ F) (mp10 : (p10, w_p10, ar "[B" .byte (lm l1)) ∈ F) : Con Z EL y5 y5b 1 y5r (rmm 6 2 35 121) [(vr p1)] (F) (fun v D' => (∃ a1 a2 : Addr, Cd .eq x1 x2 ∧ v = some (vr a1) ∧ (a2, true, ar "[B" .byte (lm l1)) :: (a1, true, oString (vr a2) (vi 0)) :: F = D') ∨ (∃ a3 a4 : Addr, ¬ Cd .eq x1 x2 ∧ Cd .gt x2 x1 ∧ (((cpl l1 (0 : Int32).toInt.toNat (List.replicate x1.toInt.toNat (0 : Int32)) (0 : Int32).toInt.toNat x1.toInt.toNat)).length : Int) = x1.toInt ∧ v = some (vr a3) ∧ (a4, true, ar "[B" .byte (lm (cpl l1 (0 : Int32).toInt.toNat (List.replicate x1.toInt.toNat (0 : Int32)) (0 : Int32).toInt.toNat x1.toInt.toNat))) :: (a3, true, oString (vr a4) (vi 0)) :: F = D')) := by
  refine Con.of (ls := #[rv p1]) (by decide +kernel) rfl ?_
  refine W.aloadN d6_0 rfl rfl ?_
  refine W.getf d6_1 (wq hw 62 rfl) Via.refl mp1 m7 ?_
  refine W.ifnonnullY 12 d6_4 (by decide) ?_
  refine W.aloadN d6_12 rfl rfl ?_
  refine W.getf d6_13 (wq hw 62 rfl) Via.refl mp1 m7 ?_
  refine W.callV (as := []) 0 [] d6_16 (wq hw 173 rfl) (wq hw 174 rfl) (wq hw 176 rfl) (wq hw 176 rfl) (wq hw 175 rfl) (wq hw 94 rfl) (wq hw 177 rfl) (Hp.exa mp6) (c27_toString hw hs (hx1 := hx1) (hx2 := hx2) (hr0 := by omega) (l1 := l1) (hl_l1 := hl_l1) (mp1 := mp6) (mp2 := mp10)) (by decide) pd__Ljava_lang_String_ rfl rfl rfl rfl (by decide) (fun v D' h => ?_)
  rcases h with ⟨a1, a2, h1, rfl, rfl⟩ | ⟨a3, a4, h2, h3, hl5, rfl, rfl⟩
  ·
   have ih1 := t_eq h1
   show W _ _ _ _ _ _ _ _ _ _ _ _ 19 _ [(vr a1)]
   exact W.areturn d6_19 rfl rfl rfl (by decide) (Or.inl ⟨a1, a2, h1, rfl, rfl⟩)
  ·
   have ih2 := f_eq h2
   have ih3 := t_gt h3
   show W _ _ _ _ _ _ _ _ _ _ _ _ 19 _ [(vr a3)]
   exact W.areturn d6_19 rfl rfl rfl (by decide) (Or.inr ⟨a3, a4, h2, h3, hl5, rfl, rfl⟩)
theorem c36_length {Z a0} (hw : HW a0 Z) (hs : SF Z) {p1 p2 : Addr} {x1 : Int32} (hx1 : 0 ≤ x1.toInt ∧ x1.toInt ≤ 7) {l1 : List Int32} (hl_l1 : (l1.length : Int) = x1.toInt) {w_p1 : Bool} {w_p2 : Bool} {ad_p2 : String} {F : List Ent} (mp1 : (p1, w_p1, oString (vr p2) (vi 0)) ∈ F) (mp2 : (p2, w_p2, ar ad_p2 .byte (lm l1)) ∈ F) : Con Z EL y8 y8b 1 y8r (rmm 1 0 0 13) [(vr p1)] (F) (fun v D' => (v = some (vi x1) ∧ F = D')) := by
  refine Con.of (ls := #[rv p1]) (by decide +kernel) rfl ?_
  refine W.aloadN d8_0 rfl rfl ?_
  refine W.getf d8_1 (wq hw 70 rfl) Via.refl mp1 m0 ?_
  refine W.alenS (l := l1) (z := x1) d8_4 mp2 hl_l1 ?_
  refine W.aloadN d8_5 rfl rfl ?_
  refine W.callV (as := []) 1 [(vi x1)] d8_6 (wq hw 76 rfl) (wq hw 77 rfl) (wq hw 79 rfl) (wq hw 79 rfl) (wq hw 78 rfl) (wq hw 5 rfl) (wq hw 80 rfl) (Hp.exa mp1) (c8_coder hw hs (mp1 := mp1)) (by decide) pd__B rfl rfl rfl rfl (by decide) (fun v D' h => ?_)
  obtain ⟨rfl, rfl⟩ := h
  show W _ _ _ _ _ _ _ _ _ _ _ _ 9 _ [(vi 0), (vi x1)]
  refine W.ishrK x1 d8_9 (z_shr0 x1) ?_
  exact W.ireturn d8_10 rfl (Or.inl rfl) rfl (by decide) ⟨rfl, rfl⟩
theorem d10_7 : decode method_2_code 7 = .ok (.iload_n 1, 1) := by decide +kernel
theorem d10_8 : decode method_2_code 8 = .ok (.iload 5, 2) := by decide +kernel
theorem d10_10 : decode method_2_code 10 = .ok (.if_icmp .ge 12, 3) := by decide +kernel
theorem d10_22 : decode method_2_code 22 = .ok (.aload 6, 2) := by decide +kernel
theorem d10_24 : decode method_2_code 24 = .ok (.iload 7, 2) := by decide +kernel
theorem d10_26 : decode method_2_code 26 = .ok (.iload_n 1, 1) := by decide +kernel
theorem d10_27 : decode method_2_code 27 = .ok (.iadd, 1) := by decide +kernel
theorem d10_28 : decode method_2_code 28 = .ok (.iload 5, 2) := by decide +kernel
theorem d10_30 : decode method_2_code 30 = .ok (.isub, 1) := by decide +kernel
theorem d10_31 : decode method_2_code 31 = .ok (.caload, 1) := by decide +kernel
theorem d10_32 : decode method_2_code 32 = .ok (.istore 8, 2) := by decide +kernel
theorem d10_34 : decode method_2_code 34 = .ok (.aload_n 0, 1) := by decide +kernel
theorem d10_35 : decode method_2_code 35 = .ok (.iload_n 1, 1) := by decide +kernel
theorem d10_36 : decode method_2_code 36 = .ok (.invokevirtual 7, 3) := by decide +kernel
theorem d35_0 : decode jdk_42_method_56_code 0 = .ok (.aload_n 0, 1) := by decide +kernel
theorem d35_1 : decode jdk_42_method_56_code 1 = .ok (.invokevirtual 492, 3) := by decide +kernel
theorem d36_0 : decode jdk_42_method_154_code 0 = .ok (.getstatic 38, 3) := by decide +kernel
theorem d36_3 : decode jdk_42_method_154_code 3 = .ok (.ifCond .eq 14, 3) := by decide +kernel
theorem d36_6 : decode jdk_42_method_154_code 6 = .ok (.aload_n 0, 1) := by decide +kernel
theorem d36_7 : decode jdk_42_method_154_code 7 = .ok (.getfield 15, 3) := by decide +kernel
theorem d36_10 : decode jdk_42_method_154_code 10 = .ok (.ifCond .ne 7, 3) := by decide +kernel
theorem d36_13 : decode jdk_42_method_154_code 13 = .ok (.iconst 1, 1) := by decide +kernel
theorem d36_14 : decode jdk_42_method_154_code 14 = .ok (.goto 4, 3) := by decide +kernel
theorem d36_18 : decode jdk_42_method_154_code 18 = .ok (.ireturn, 1) := by decide +kernel
abbrev y34 : MethodName := ⟨"java/lang/String", "isLatin1", "()Z"⟩
abbrev y34b : ByteArray := jdk_42_method_154_code
abbrev y34r : Option Jvm.ClassFile.FieldType := (Option.some Jvm.ClassFile.FieldType.boolean)
theorem c39_isLatin1 {Z a0} (hw : HW a0 Z) (hs : SF Z) {p1 : Addr} {f_p1_0 : Value} {w_p1 : Bool} {F : List Ent} (mp1 : (p1, w_p1, oString f_p1_0 (vi 0)) ∈ F) : Con Z EL y34 y34b 1 y34r (rmm 0 0 0 0) [(vr p1)] (F) (fun v D' => (v = some (vi 1) ∧ F = D')) := by
  refine Con.of (ls := #[rv p1]) (by decide +kernel) rfl ?_
  refine W.gets d36_0 (wq hw 81 rfl) Via.refl hs.1 ?_
  refine W.ifN d36_3 (n_eq (by have := hs.2.1; have := q0; omega)) ?_
  refine W.aloadN d36_6 rfl rfl ?_
  refine W.getf d36_7 (wq hw 82 rfl) Via.refl mp1 m1 ?_
  refine W.ifN d36_10 (n_ne (by decide)) ?_
  refine W.iconst (1) d36_13 (by decide) ?_
  refine W.goto 18 d36_14 (by decide) ?_
  exact W.ireturn d36_18 rfl (Or.inr (Or.inl rfl)) (nw_bool (by decide)) (by decide) ⟨rfl, rfl⟩
theorem d35_4 : decode jdk_42_method_56_code 4 = .ok (.ifCond .eq 12, 3) := by decide +kernel
theorem d35_7 : decode jdk_42_method_56_code 7 = .ok (.aload_n 0, 1) := by decide +kernel
theorem d35_8 : decode jdk_42_method_56_code 8 = .ok (.getfield 9, 3) := by decide +kernel
theorem d35_11 : decode jdk_42_method_56_code 11 = .ok (.iload_n 1, 1) := by decide +kernel
theorem d35_12 : decode jdk_42_method_56_code 12 = .ok (.invokestatic 495, 3) := by decide +kernel
theorem d37_0 : decode jdk_43_method_2_code 0 = .ok (.iload_n 1, 1) := by decide +kernel
theorem d37_1 : decode jdk_43_method_2_code 1 = .ok (.aload_n 0, 1) := by decide +kernel
theorem d37_2 : decode jdk_43_method_2_code 2 = .ok (.arraylength, 1) := by decide +kernel
theorem d37_3 : decode jdk_43_method_2_code 3 = .ok (.invokestatic 9, 3) := by decide +kernel
theorem d38_0 : decode jdk_42_method_155_code 0 = .ok (.iload_n 0, 1) := by decide +kernel
theorem d38_1 : decode jdk_42_method_155_code 1 = .ok (.iload_n 1, 1) := by decide +kernel
theorem d38_2 : decode jdk_42_method_155_code 2 = .ok (.getstatic 1053, 3) := by decide +kernel
theorem d38_5 : decode jdk_42_method_155_code 5 = .ok (.invokestatic 1059, 3) := by decide +kernel
theorem d39_0 : decode jdk_41_method_11_code 0 = .ok (.iload_n 0, 1) := by decide +kernel
theorem d39_1 : decode jdk_41_method_11_code 1 = .ok (.ifCond .lt 8, 3) := by decide +kernel
theorem d39_4 : decode jdk_41_method_11_code 4 = .ok (.iload_n 0, 1) := by decide +kernel
theorem d39_5 : decode jdk_41_method_11_code 5 = .ok (.iload_n 1, 1) := by decide +kernel
theorem d39_6 : decode jdk_41_method_11_code 6 = .ok (.if_icmp .lt 10, 3) := by decide +kernel
theorem d39_16 : decode jdk_41_method_11_code 16 = .ok (.iload_n 0, 1) := by decide +kernel
theorem d39_17 : decode jdk_41_method_11_code 17 = .ok (.ireturn, 1) := by decide +kernel
abbrev y35 : MethodName := ⟨"jdk/internal/util/Preconditions", "checkIndex", "(IILjava/util/function/BiFunction;)I"⟩
abbrev y35b : ByteArray := jdk_41_method_11_code
abbrev y35r : Option Jvm.ClassFile.FieldType := (Option.some Jvm.ClassFile.FieldType.int)
theorem c42_checkIndex {Z a0} (hw : HW a0 Z) (hs : SF Z) {x1 : Int32} (hx1 : 0 ≤ x1.toInt ∧ x1.toInt ≤ 7) {x2 : Int32} (hx2 : 0 ≤ x2.toInt ∧ x2.toInt ≤ 7) (hr0 : (0 : Int32).toInt ≤ x1.toInt) (hr1 : x1.toInt < x2.toInt) {F : List Ent} : Con Z EL y35 y35b 3 y35r (rmm 0 0 0 0) [(vi x1), (vi x2), (sfv Z)] (F) (fun v D' => (v = some (vi x1) ∧ F = D')) := by
  refine Con.of (ls := #[iv x1, iv x2, .val (sfv Z)]) (by decide +kernel) (hent_of (ld1 rfl (ld1 rfl (ld1 (XT.cat1 hs.2.2.1) ld0))) rfl) ?_
  refine W.iloadN d39_0 rfl ?_
  refine W.ifN d39_1 (n_lt (by have := q0; omega)) ?_
  refine W.iloadN d39_4 rfl ?_
  refine W.iloadN d39_5 rfl ?_
  refine W.icmpY 16 d39_6 (y_lt (by have := q0; omega)) (by decide) ?_
  refine W.iloadN d39_16 rfl ?_
  exact W.ireturn d39_17 rfl (Or.inl rfl) rfl (by decide) ⟨rfl, rfl⟩
theorem pd_IILjava_util_function_BiFunction__I : parseMethodDescriptor "(IILjava/util/function/BiFunction;)I" = some ⟨[.int, .int, (.object "java/util/function/BiFunction")], some .int⟩ := by decide +kernel
theorem d38_8 : decode jdk_42_method_155_code 8 = .ok (.pop, 1) := by decide +kernel
theorem d38_9 : decode jdk_42_method_155_code 9 = .ok (.return_, 1) := by decide +kernel
abbrev y36 : MethodName := ⟨"java/lang/String", "checkIndex", "(II)V"⟩
abbrev y36b : ByteArray := jdk_42_method_155_code
abbrev y36r : Option Jvm.ClassFile.FieldType := (Option.none : Option Jvm.ClassFile.FieldType)
theorem c41_checkIndex {Z a0} (hw : HW a0 Z) (hs : SF Z) {x1 : Int32} (hx1 : 0 ≤ x1.toInt ∧ x1.toInt ≤ 7) {x2 : Int32} (hx2 : 0 ≤ x2.toInt ∧ x2.toInt ≤ 7) (hr0 : (0 : Int32).toInt ≤ x1.toInt) (hr1 : x1.toInt < x2.toInt) {F : List Ent} : Con Z EL y36 y36b 2 y36r (rmm 1 0 0 14) [(vi x1), (vi x2)] (F) (fun v D' => (v = none ∧ F = D')) := by
  refine Con.of (ls := #[iv x1, iv x2]) (by decide +kernel) rfl ?_
  refine W.iloadN d38_0 rfl ?_
  refine W.iloadN d38_1 rfl ?_
  refine W.gets d38_2 (wq hw 226 rfl) Via.refl hs.2.2.2.1 ?_
  refine W.callS (as := [(vi x1), (vi x2), (sfv Z)]) 0 [] d38_5 (wq hw 227 rfl) (wq hw 228 rfl) (wq hw 121 rfl) (wq hw 229 rfl) (c42_checkIndex hw hs (hx1 := hx1) (hx2 := hx2) (hr0 := by have := q0; omega) (hr1 := by have := q0; omega)) (by decide) pd_IILjava_util_function_BiFunction__I rfl rfl rfl rfl (by decide) (fun v D' h => ?_)
  obtain ⟨rfl, rfl⟩ := h
  show W _ _ _ _ _ _ _ _ _ _ _ _ 8 _ [(vi x1)]
  refine W.popv d38_8 rfl ?_
  exact W.return_ d38_9 rfl (by decide) ⟨rfl, rfl⟩
theorem d37_6 : decode jdk_43_method_2_code 6 = .ok (.aload_n 0, 1) := by decide +kernel
theorem d37_7 : decode jdk_43_method_2_code 7 = .ok (.iload_n 1, 1) := by decide +kernel
theorem d37_8 : decode jdk_43_method_2_code 8 = .ok (.baload, 1) := by decide +kernel
theorem d37_9 : decode jdk_43_method_2_code 9 = .ok (.sipush 255, 3) := by decide +kernel
theorem d37_12 : decode jdk_43_method_2_code 12 = .ok (.iand, 1) := by decide +kernel
theorem d37_13 : decode jdk_43_method_2_code 13 = .ok (.i2c, 1) := by decide +kernel
theorem d37_14 : decode jdk_43_method_2_code 14 = .ok (.ireturn, 1) := by decide +kernel
abbrev y37 : MethodName := ⟨"java/lang/StringLatin1", "charAt", "([BI)C"⟩
abbrev y37b : ByteArray := jdk_43_method_2_code
abbrev y37r : Option Jvm.ClassFile.FieldType := (Option.some Jvm.ClassFile.FieldType.char)
theorem c40_charAt {Z a0} (hw : HW a0 Z) (hs : SF Z) {p1 : Addr} {x1 : Int32} (hx1 : 0 ≤ x1.toInt ∧ x1.toInt ≤ 7) {x2 : Int32} (hx2 : 0 ≤ x2.toInt ∧ x2.toInt ≤ 7) {l1 : List Int32} (hl_l1 : (l1.length : Int) = x2.toInt) (hr0 : x1.toInt < x2.toInt) {w_p1 : Bool} {ad_p1 : String} {F : List Ent} (mp1 : (p1, w_p1, ar ad_p1 .byte (lm l1)) ∈ F) : Con Z EL y37 y37b 2 y37r (rmm 2 0 0 27) [(vr p1), (vi x1)] (F) (fun v D' => (v = some (vi ((sel x1 l1) &&& (255 : Int32))) ∧ F = D')) := by
  refine Con.of (ls := #[rv p1, iv x1]) (by decide +kernel) rfl ?_
  refine W.iloadN d37_0 rfl ?_
  refine W.aloadN d37_1 rfl rfl ?_
  refine W.alenS (l := l1) (z := x2) d37_2 mp1 hl_l1 ?_
  refine W.callS (as := [(vi x1), (vi x2)]) 0 [] d37_3 (wq hw 223 rfl) (wq hw 224 rfl) (wq hw 5 rfl) (wq hw 225 rfl) (c41_checkIndex hw hs (hx1 := hx1) (hx2 := hx2) (hr0 := by have := q0; omega) (hr1 := by omega)) (by decide) pd_II_V rfl rfl rfl rfl (by decide) (fun v D' h => ?_)
  obtain ⟨rfl, rfl⟩ := h
  show W _ _ _ _ _ _ _ _ _ _ _ _ 6 _ []
  refine W.aloadN d37_6 rfl rfl ?_
  refine W.iloadN d37_7 rfl ?_
  refine W.baloadS (j' := x1) (l := l1) d37_8 mp1 rfl (by have := hl_l1; have := q0; omega) ?_
  refine W.sipush (255) d37_9 (by decide) ?_
  refine W.iand d37_12 ?_
  refine W.i2cK ((sel x1 l1) &&& (255 : Int32)) d37_13 (z_i2c (by have := rng32 (sel x1 l1); have := q255; have := am_255 (sel x1 l1); omega)) ?_
  exact W.ireturn d37_14 rfl (Or.inr (Or.inr (Or.inr (Or.inl rfl)))) (nw_char (by have := rng32 (sel x1 l1); have := q255; have := am_255 (sel x1 l1); omega)) (by decide) ⟨rfl, rfl⟩
theorem pd__BI_C : parseMethodDescriptor "([BI)C" = some ⟨[(.array .byte), .int], some .char⟩ := by decide +kernel
theorem d35_15 : decode jdk_42_method_56_code 15 = .ok (.ireturn, 1) := by decide +kernel
abbrev y38 : MethodName := ⟨"java/lang/String", "charAt", "(I)C"⟩
abbrev y38b : ByteArray := jdk_42_method_56_code
abbrev y38r : Option Jvm.ClassFile.FieldType := (Option.some Jvm.ClassFile.FieldType.char)
theorem c38_charAt {Z a0} (hw : HW a0 Z) (hs : SF Z) {p1 p2 : Addr} {x1 : Int32} (hx1 : 0 ≤ x1.toInt ∧ x1.toInt ≤ 7) {x2 : Int32} (hx2 : 0 ≤ x2.toInt ∧ x2.toInt ≤ 7) {l1 : List Int32} (hl_l1 : (l1.length : Int) = x2.toInt) (hr0 : x1.toInt < x2.toInt) {w_p1 : Bool} {w_p2 : Bool} {ad_p2 : String} {F : List Ent} (mp1 : (p1, w_p1, oString (vr p2) (vi 0)) ∈ F) (mp2 : (p2, w_p2, ar ad_p2 .byte (lm l1)) ∈ F) : Con Z EL y38 y38b 2 y38r (rmm 3 0 0 40) [(vr p1), (vi x1)] (F) (fun v D' => (v = some (vi ((sel x1 l1) &&& (255 : Int32))) ∧ F = D')) := by
  refine Con.of (ls := #[rv p1, iv x1]) (by decide +kernel) rfl ?_
  refine W.aloadN d35_0 rfl rfl ?_
  refine W.callV (as := []) 0 [] d35_1 (wq hw 215 rfl) (wq hw 216 rfl) (wq hw 218 rfl) (wq hw 218 rfl) (wq hw 217 rfl) (wq hw 5 rfl) (wq hw 219 rfl) (Hp.exa mp1) (c39_isLatin1 hw hs (mp1 := mp1)) (by decide) pd__Z rfl rfl rfl rfl (by decide) (fun v D' h => ?_)
  obtain ⟨rfl, rfl⟩ := h
  show W _ _ _ _ _ _ _ _ _ _ _ _ 4 _ [(vi 1)]
  refine W.ifN d35_4 (n_eq (by decide)) ?_
  refine W.aloadN d35_7 rfl rfl ?_
  refine W.getf d35_8 (wq hw 70 rfl) Via.refl mp1 m0 ?_
  refine W.iloadN d35_11 rfl ?_
  refine W.callS (as := [(vr p2), (vi x1)]) 0 [] d35_12 (wq hw 220 rfl) (wq hw 221 rfl) (wq hw 145 rfl) (wq hw 222 rfl) (c40_charAt hw hs (hx1 := hx1) (hx2 := hx2) (hr0 := by omega) (l1 := l1) (hl_l1 := hl_l1) (mp1 := mp2)) (by decide) pd__BI_C rfl rfl rfl rfl (by decide) (fun v D' h => ?_)
  obtain ⟨rfl, rfl⟩ := h
  show W _ _ _ _ _ _ _ _ _ _ _ _ 15 _ [(vi ((sel x1 l1) &&& (255 : Int32)))]
  exact W.ireturn d35_15 rfl (Or.inr (Or.inr (Or.inr (Or.inl rfl)))) (nw_char (by have := rng32 (sel x1 l1); have := q255; have := am_255 (sel x1 l1); omega)) (by decide) ⟨rfl, rfl⟩
theorem pd_I_C : parseMethodDescriptor "(I)C" = some ⟨[.int], some .char⟩ := by decide +kernel
theorem d10_39 : decode method_2_code 39 = .ok (.iload 8, 2) := by decide +kernel
theorem d10_41 : decode method_2_code 41 = .ok (.if_icmp .ne 7, 3) := by decide +kernel
theorem d10_44 : decode method_2_code 44 = .ok (.iconst 1, 1) := by decide +kernel
theorem d10_45 : decode method_2_code 45 = .ok (.goto 4, 3) := by decide +kernel
theorem d10_49 : decode method_2_code 49 = .ok (.ireturn, 1) := by decide +kernel
theorem d10_13 : decode method_2_code 13 = .ok (.aload_n 3, 1) := by decide +kernel
theorem d10_14 : decode method_2_code 14 = .ok (.iload 4, 2) := by decide +kernel
theorem d10_16 : decode method_2_code 16 = .ok (.iload_n 1, 1) := by decide +kernel
theorem d10_17 : decode method_2_code 17 = .ok (.iadd, 1) := by decide +kernel
theorem d10_18 : decode method_2_code 18 = .ok (.caload, 1) := by decide +kernel
theorem d10_19 : decode method_2_code 19 = .ok (.goto 13, 3) := by decide +kernel
theorem c37_at {Z a0} (hw : HW a0 Z) (hs : SF Z) {p1 p2 p3 p4 : Addr} {x1 : Int32} (hx1 : 0 ≤ x1.toInt ∧ x1.toInt ≤ 127) {x2 : Int32} (hx2 : 0 ≤ x2.toInt ∧ x2.toInt ≤ 7) {x3 : Int32} (hx3 : 0 ≤ x3.toInt ∧ x3.toInt ≤ 7) {x4 : Int32} (hx4 : 0 ≤ x4.toInt ∧ x4.toInt ≤ 127) {x5 : Int32} (hx5 : 0 ≤ x5.toInt ∧ x5.toInt ≤ 7) {l1 : List Int32} (hl_l1 : (l1.length : Int) = (4 : Int32).toInt) (hb_l1 : ∀ x ∈ l1, 0 ≤ x.toInt ∧ x.toInt ≤ 255) {l2 : List Int32} (hl_l2 : (l2.length : Int) = (4 : Int32).toInt) (hb_l2 : ∀ x ∈ l2, 0 ≤ x.toInt ∧ x.toInt ≤ 255) {l3 : List Int32} (hl_l3 : (l3.length : Int) = x2.toInt) (hr0 : x2.toInt ≤ x2.toInt) (hr1 : (x3 + x4).toInt ≤ (4 : Int32).toInt) (hr2 : (x5 + x2).toInt ≤ (x4 + (4 : Int32)).toInt) (hA : ∀ k : Int32, x1.toInt < x4.toInt → k.toInt = x3.toInt + x1.toInt → (sel x1 l3 &&& 255).toInt = (sel k l1).toInt) (hB : ∀ k : Int32, x4.toInt ≤ x1.toInt → x1.toInt < x2.toInt → k.toInt = x5.toInt + x1.toInt - x4.toInt → (sel x1 l3 &&& 255).toInt = (sel k l2).toInt) {w_p3 : Bool} {ad_p3 : String} {w_p1 : Bool} {w_p4 : Bool} {ad_p4 : String} {w_p2 : Bool} {ad_p2 : String} {F : List Ent} (mp3 : (p3, w_p3, ar ad_p3 .char (lm l2)) ∈ F) (mp1 : (p1, w_p1, oString (vr p4) (vi 0)) ∈ F) (mp4 : (p4, w_p4, ar ad_p4 .byte (lm l3)) ∈ F) (mp2 : (p2, w_p2, ar ad_p2 .char (lm l1)) ∈ F) : Con Z EL y9 y9b 9 y9r (rmm 4 0 0 53) [(vr p1), (vi x1), (vi x2), (vr p2), (vi x3), (vi x4), (vr p3), (vi x5)] (F) (fun v D' => (v = some (vi 1) ∧ F = D')) := by
  refine Con.of (ls := #[rv p1, iv x1, iv x2, rv p2, iv x3, iv x4, rv p3, iv x5, uu]) (by decide +kernel) rfl ?_
  refine W.iloadN d10_0 rfl ?_
  refine W.iloadN d10_1 rfl ?_
  refine W.icmp 7 d10_2 (by decide) (fun h1 => ?_) (fun h1 => ?_)
  ·
   have ih1 := t_lt h1
   refine W.iloadN d10_7 rfl ?_
   refine W.iload d10_8 rfl ?_
   refine W.icmp 22 d10_10 (by decide) (fun h2 => ?_) (fun h2 => ?_)
   ·
    have ih2 := t_ge h2
    refine W.aload 6 d10_22 rfl rfl ?_
    refine W.iload d10_24 rfl ?_
    refine W.iloadN d10_26 rfl ?_
    refine W.iadd d10_27 ?_
    refine W.iload d10_28 rfl ?_
    refine W.isub d10_30 ?_
    refine W.caloadS (j' := ((x5 + x1) - x4)) (l := l2) d10_31 mp3 rfl (by have := hl_l2; have := a_add x5 x1; have := a_sub (x5 + x1) x4; have := q4; have := q0; have := a_add x3 x4; have := a_add x5 x2; have := a_add x4 (4 : Int32); omega) ?_
    refine W.istore (ls' := #[rv p1, iv x1, iv x2, rv p2, iv x3, iv x4, rv p3, iv x5, iv (sel ((x5 + x1) - x4) l2)]) d10_32 rfl ?_
    refine W.aloadN d10_34 rfl rfl ?_
    refine W.iloadN d10_35 rfl ?_
    refine W.callV (as := [(vi x1)]) 0 [] d10_36 (wq hw 210 rfl) (wq hw 211 rfl) (wq hw 213 rfl) (wq hw 213 rfl) (wq hw 212 rfl) (wq hw 5 rfl) (wq hw 214 rfl) (Hp.exa mp1) (c38_charAt hw hs (hx1 := (by have := a_add x3 x4; have := q4; have := a_add x5 x2; have := a_add x4 (4 : Int32); omega)) (hx2 := hx2) (hr0 := by have := a_add x5 x2; have := q4; have := a_add x4 (4 : Int32); have := a_add x3 x4; omega) (l1 := l3) (hl_l1 := hl_l3) (mp1 := mp1) (mp2 := mp4)) (by decide) pd_I_C rfl rfl rfl rfl (by decide) (fun v D' h => ?_)
    obtain ⟨rfl, rfl⟩ := h
    show W _ _ _ _ _ _ _ _ _ _ _ _ 39 _ [(vi ((sel x1 l3) &&& (255 : Int32)))]
    refine W.iload d10_39 rfl ?_
    have hq : ((sel x1 l3) &&& (255 : Int32)).toInt = (sel ((x5 + x1) - x4) l2).toInt := hB _ (by have := a_add x5 x1; have := a_sub (x5 + x1) x4; have := a_add x3 x4; have := q4; have := a_add x5 x2; have := a_add x4 (4 : Int32); omega) (by have := a_add x5 x1; have := a_sub (x5 + x1) x4; have := a_add x3 x4; have := q4; have := a_add x5 x2; have := a_add x4 (4 : Int32); omega) (by have := a_add x5 x1; have := a_sub (x5 + x1) x4; have := a_add x3 x4; have := q4; have := a_add x5 x2; have := a_add x4 (4 : Int32); omega)
    refine W.icmpN d10_41 (n_ne (by have := rng32 (sel x1 l3); have := q255; have := am_255 (sel x1 l3); have := a_add x5 x1; have := a_sub (x5 + x1) x4; have := sel_b hb_l2 (by decide) ((x5 + x1) - x4); have := a_add x3 x4; have := q4; have := a_add x5 x2; have := a_add x4 (4 : Int32); omega)) ?_
    refine W.iconst (1) d10_44 (by decide) ?_
    refine W.goto 49 d10_45 (by decide) ?_
    exact W.ireturn d10_49 rfl (Or.inr (Or.inl rfl)) (nw_bool (by decide)) (by decide) ⟨rfl, rfl⟩
   ·
    have ih2 := f_ge h2
    refine W.aloadN d10_13 rfl rfl ?_
    refine W.iload d10_14 rfl ?_
    refine W.iloadN d10_16 rfl ?_
    refine W.iadd d10_17 ?_
    refine W.caloadS (j' := (x3 + x1)) (l := l1) d10_18 mp2 rfl (by have := hl_l1; have := a_add x3 x1; have := q4; have := q0; have := a_add x3 x4; have := a_add x5 x2; have := a_add x4 (4 : Int32); omega) ?_
    refine W.goto 32 d10_19 (by decide) ?_
    refine W.istore (ls' := #[rv p1, iv x1, iv x2, rv p2, iv x3, iv x4, rv p3, iv x5, iv (sel (x3 + x1) l1)]) d10_32 rfl ?_
    refine W.aloadN d10_34 rfl rfl ?_
    refine W.iloadN d10_35 rfl ?_
    refine W.callV (as := [(vi x1)]) 0 [] d10_36 (wq hw 210 rfl) (wq hw 211 rfl) (wq hw 213 rfl) (wq hw 213 rfl) (wq hw 212 rfl) (wq hw 5 rfl) (wq hw 214 rfl) (Hp.exa mp1) (c38_charAt hw hs (hx1 := (by have := a_add x3 x4; have := q4; have := a_add x5 x2; have := a_add x4 (4 : Int32); omega)) (hx2 := hx2) (hr0 := by have := a_add x5 x2; have := q4; have := a_add x4 (4 : Int32); have := a_add x3 x4; omega) (l1 := l3) (hl_l1 := hl_l3) (mp1 := mp1) (mp2 := mp4)) (by decide) pd_I_C rfl rfl rfl rfl (by decide) (fun v D' h => ?_)
    obtain ⟨rfl, rfl⟩ := h
    show W _ _ _ _ _ _ _ _ _ _ _ _ 39 _ [(vi ((sel x1 l3) &&& (255 : Int32)))]
    refine W.iload d10_39 rfl ?_
    have hq : ((sel x1 l3) &&& (255 : Int32)).toInt = (sel (x3 + x1) l1).toInt := hA _ (by have := a_add x3 x1; have := a_add x3 x4; have := q4; have := a_add x5 x2; have := a_add x4 (4 : Int32); omega) (by have := a_add x3 x1; have := a_add x3 x4; have := q4; have := a_add x5 x2; have := a_add x4 (4 : Int32); omega)
    refine W.icmpN d10_41 (n_ne (by have := rng32 (sel x1 l3); have := q255; have := am_255 (sel x1 l3); have := a_add x3 x1; have := sel_b hb_l1 (by decide) (x3 + x1); have := a_add x3 x4; have := q4; have := a_add x5 x2; have := a_add x4 (4 : Int32); omega)) ?_
    refine W.iconst (1) d10_44 (by decide) ?_
    refine W.goto 49 d10_45 (by decide) ?_
    exact W.ireturn d10_49 rfl (Or.inr (Or.inl rfl)) (nw_bool (by decide)) (by decide) ⟨rfl, rfl⟩
  ·
   have ih1 := f_lt h1
   refine W.iconst (1) d10_5 (by decide) ?_
   exact W.ireturn d10_6 rfl (Or.inr (Or.inl rfl)) (nw_bool (by decide)) (by decide) ⟨rfl, rfl⟩
theorem c46_appendChars {Z a0} (hw : HW a0 Z) (hs : SF Z) {p1 p2 p3 : Addr} {x1 : Int32} (hx1 : 0 ≤ x1.toInt ∧ x1.toInt ≤ 7) {x2 : Int32} (hx2 : 0 ≤ x2.toInt ∧ x2.toInt ≤ 7) {x3 : Int32} (hx3 : 0 ≤ x3.toInt ∧ x3.toInt ≤ 7) {x4 : Int32} (hx4 : 0 ≤ x4.toInt ∧ x4.toInt ≤ 31) {l1 : List Int32} (hl_l1 : (l1.length : Int) = (4 : Int32).toInt) (hb_l1 : ∀ x ∈ l1, 0 ≤ x.toInt ∧ x.toInt ≤ 255) {l2 : List Int32} (hl_l2 : (l2.length : Int) = x4.toInt) (hr0 : x1.toInt ≤ x2.toInt) (hr1 : x2.toInt ≤ (4 : Int32).toInt) (hr2 : (x3 + x2).toInt ≤ (x4 + x1).toInt) {ad_p3 : String} {w_p2 : Bool} {ad_p2 : String} {F : List Ent} (mp2 : (p2, w_p2, ar ad_p2 .char (lm l1)) ∈ F) : Con Z EL y21 y21b 9 y21r (rmm 1 0 0 12) [(vr p1), (vr p2), (vi x1), (vi x2)] ((p3, true, ar ad_p3 .byte (lm l2)) :: (p1, true, oStringBuilder (vr p3) (vi 0) (vi x3)) :: F) (fun v D' => ((((put l2 x3.toInt.toNat l1 x1.toInt.toNat (x2 - x1).toInt.toNat)).length : Int) = x4.toInt ∧ v = none ∧ (p3, true, ar ad_p3 .byte (lm (put l2 x3.toInt.toNat l1 x1.toInt.toNat (x2 - x1).toInt.toNat))) :: (p1, true, oStringBuilder (vr p3) (vi 0) (vi ((x3 + x2) - x1))) :: F = D')) := by
  refine Con.of (ls := #[rv p1, rv p2, iv x1, iv x2, uu, uu, uu, uu, uu]) (by decide +kernel) rfl ?_
  refine W.aloadN d18_0 rfl rfl ?_
  refine W.getf d18_1 (wq hw 126 rfl) Via.refl m1 m2 ?_
  refine W.istore (ls' := #[rv p1, rv p2, iv x1, iv x2, iv x3, uu, uu, uu, uu]) d18_4 rfl ?_
  refine W.aloadN d18_6 rfl rfl ?_
  refine W.callV (as := []) 0 [] d18_7 (wq hw 138 rfl) (wq hw 139 rfl) (wq hw 141 rfl) (wq hw 141 rfl) (wq hw 140 rfl) (wq hw 102 rfl) (wq hw 142 rfl) (Hp.exa m1) (c23_isLatin1 hw hs (mp1 := m1)) (by decide) pd__Z rfl rfl rfl rfl (by decide) (fun v D' h => ?_)
  obtain ⟨rfl, rfl⟩ := h
  show W _ _ _ _ _ _ _ _ _ _ _ _ 10 _ [(vi 1)]
  refine W.ifN d18_10 (n_eq (by decide)) ?_
  refine W.aloadN d18_13 rfl rfl ?_
  refine W.getf d18_14 (wq hw 106 rfl) Via.refl m1 m0 ?_
  refine W.astore (ls' := #[rv p1, rv p2, iv x1, iv x2, iv x3, rv p3, uu, uu, uu]) d18_17 rfl rfl ?_
  refine W.iloadN d18_19 rfl ?_
  refine W.istore (ls' := #[rv p1, rv p2, iv x1, iv x2, iv x3, rv p3, iv x1, uu, uu]) d18_20 rfl ?_
  refine W.iload d18_22 rfl ?_
  refine W.istore (ls' := #[rv p1, rv p2, iv x1, iv x2, iv x3, rv p3, iv x1, iv x3, uu]) d18_24 rfl ?_
  have K5 : ∀ (m : Nat) (g1 : Int32) (g2 : Int32) (gl3 : List Int32) (t4 : Slot), (0 ≤ g1.toInt ∧ g1.toInt ≤ 127) → (0 ≤ g2.toInt ∧ g2.toInt ≤ 127) → ((gl3.length : Int) = x4.toInt) → (SlOk t4) → (x1.toInt ≤ g1.toInt) → (g1.toInt ≤ x2.toInt) → ((g2 + x1).toInt = (x3 + g1).toInt) → (gl3 = put l2 x3.toInt.toNat l1 x1.toInt.toNat (g1.toInt - x1.toInt).toNat) → (x2.toInt - g1.toInt).toNat = m → W Z EL (rmm 1 0 0 12) "java/lang/AbstractStringBuilder" "appendChars" jdk_68_method_74_code 9 (Option.none : Option Jvm.ClassFile.FieldType) (fun v D' => ((((put l2 x3.toInt.toNat l1 x1.toInt.toNat (x2 - x1).toInt.toNat)).length : Int) = x4.toInt ∧ v = none ∧ (p3, true, ar ad_p3 .byte (lm (put l2 x3.toInt.toNat l1 x1.toInt.toNat (x2 - x1).toInt.toNat))) :: (p1, true, oStringBuilder (vr p3) (vi 0) (vi ((x3 + x2) - x1))) :: F = D')) ((p3, true, ar ad_p3 .byte (lm gl3)) :: (p1, true, oStringBuilder (vr p3) (vi 0) (vi x3)) :: F) 0 0 26 #[rv p1, rv p2, iv x1, iv x2, iv x3, rv p3, iv g1, iv g2, t4] [] := by
   intro m
   induction m using Nat.strongRecOn with
   | ind m ih =>
    intro g1 g2 gl3 t4 hg1 hg2 hgl3 ht4 ha hb hj hL hm
    refine W.iload d18_26 rfl ?_
    refine W.iloadN d18_28 rfl ?_
    refine W.icmp 104 d18_29 (by decide) (fun h1 => ?_) (fun h1 => ?_)
    ·
     have ih1 := t_ge h1
     have hE : gl3 = (put l2 x3.toInt.toNat l1 x1.toInt.toNat (x2 - x1).toInt.toNat) := by rw [hL, show (g1.toInt - x1.toInt).toNat = (x2 - x1).toInt.toNat from by have := a_sub x2 x1; have := q4; have := a_add x3 x2; have := a_add x4 x1; have := a_add g2 x1; have := a_add x3 g1; omega]
     subst hE
     refine W.goto 119 d18_104 (by decide) ?_
     refine W.aloadN d18_119 rfl rfl ?_
     refine W.iload d18_120 rfl ?_
     refine W.iloadN d18_122 rfl ?_
     refine W.iadd d18_123 ?_
     refine W.iloadN d18_124 rfl ?_
     refine W.isub d18_125 ?_
     refine W.putf (D' := (p3, true, ar ad_p3 .byte (lm (put l2 x3.toInt.toNat l1 x1.toInt.toNat (x2 - x1).toInt.toNat))) :: (p1, true, oStringBuilder (vr p3) (vi 0) (vi ((x3 + x2) - x1))) :: F) 1 2 d18_126 (wq hw 126 rfl) Via.refl rfl rfl (Or.inl (wq hw 127 rfl)) (wq hw 93 rfl) pfI rfl rfl rfl ?_
     exact W.return_ d18_129 rfl (by decide) ⟨hgl3, rfl, rfl⟩
    ·
     have ih1 := f_ge h1
     refine W.aloadN d18_32 rfl rfl ?_
     refine W.iload d18_33 rfl ?_
     refine W.caloadS (j' := g1) (l := l1) d18_35 (mS (mS mp2)) rfl (by have := hl_l1; have := q4; have := q0; have := a_add g2 x1; have := a_add x3 g1; have := a_add x3 x2; have := a_add x4 x1; omega) ?_
     refine W.istore (ls' := #[rv p1, rv p2, iv x1, iv x2, iv x3, rv p3, iv g1, iv g2, iv (sel g1 l1)]) d18_36 (store_ok ht4 rfl rfl) ?_
     refine W.iload d18_38 rfl ?_
     refine W.callS (as := [(vi (sel g1 l1))]) 0 [] d18_40 (wq hw 143 rfl) (wq hw 144 rfl) (wq hw 145 rfl) (wq hw 146 rfl) (c24_canEncode hw hs (hx1 := (by have := sel_b hb_l1 (by decide) g1; have := a_add g2 x1; have := a_add x3 g1; have := q4; have := a_add x3 x2; have := a_add x4 x1; omega))) (by decide) pd_C_Z rfl rfl rfl rfl (by decide) (fun v D' h => ?_)
     obtain ⟨rfl, rfl⟩ := h
     show W _ _ _ _ _ _ _ _ _ _ _ _ 43 _ [(vi 1)]
     refine W.ifN d18_43 (n_eq (by decide)) ?_
     refine W.aload 5 d18_46 rfl rfl ?_
     refine W.iload d18_48 rfl ?_
     refine W.iincK (ls' := #[rv p1, rv p2, iv x1, iv x2, iv x3, rv p3, iv g1, iv (g2 + (1 : Int32)), iv (sel g1 l1)]) (1) (g2 + (1 : Int32)) d18_50 (by decide) rfl rfl rfl ?_
     refine W.iload d18_53 rfl ?_
     refine W.i2b d18_55 ?_
     have hl7 := len_set (j := g2.toInt.toNat) (v := (sel g1 l1).toInt8.toInt32) hgl3
     refine W.bastoreS (l := gl3) (x' := (sel g1 l1).toInt8.toInt32) (D' := (p3, true, ar ad_p3 .byte (lm (List.set gl3 g2.toInt.toNat (sel g1 l1).toInt8.toInt32))) :: (p1, true, oStringBuilder (vr p3) (vi 0) (vi x3)) :: F) 0 d18_56 rfl (by have := hgl3; have := q0; have := a_add x3 x2; have := a_add x4 x1; have := a_add g2 x1; have := a_add x3 g1; have := q4; omega) (z_narB (by have := sel_b hb_l1 (by decide) g1; have := a_i2b (sel g1 l1); have := a_add g2 x1; have := a_add x3 g1; have := q4; have := a_add x3 x2; have := a_add x4 x1; omega)) rfl ?_
     refine W.goto 98 d18_57 (by decide) ?_
     refine W.iincK (ls' := #[rv p1, rv p2, iv x1, iv x2, iv x3, rv p3, iv (g1 + (1 : Int32)), iv (g2 + (1 : Int32)), iv (sel g1 l1)]) (1) (g1 + (1 : Int32)) d18_98 (by decide) rfl rfl rfl ?_
     refine W.goto 26 d18_101 (by decide) ?_
     exact W.mono (by decide) (by decide) (ih _ (by have := q1; have := a_add g1 (1 : Int32); have := q4; have := a_add x3 x2; have := a_add x4 x1; have := a_add g2 x1; have := a_add x3 g1; omega) (g1 + (1 : Int32)) (g2 + (1 : Int32)) (List.set gl3 g2.toInt.toNat (sel g1 l1).toInt8.toInt32) (iv (sel g1 l1)) (by have := q1; have := a_add g1 (1 : Int32); have := a_add g2 x1; have := a_add x3 g1; have := q4; have := a_add x3 x2; have := a_add x4 x1; omega) (by have := q1; have := a_add g2 (1 : Int32); have := a_add g2 x1; have := a_add x3 g1; have := a_add x3 x2; have := a_add x4 x1; have := q4; omega) hl7 (Or.inr ⟨_, rfl, rfl⟩) (by have := q1; have := a_add g1 (1 : Int32); have := a_add g2 (1 : Int32); have := q4; have := a_add (g2 + (1 : Int32)) x1; have := a_add x3 (g1 + (1 : Int32)); have := q0; have := a_add g2 x1; have := a_add x3 g1; have := a_add x3 x2; have := a_add x4 x1; omega) (by have := q1; have := a_add g1 (1 : Int32); have := a_add g2 (1 : Int32); have := q4; have := a_add (g2 + (1 : Int32)) x1; have := a_add x3 (g1 + (1 : Int32)); have := q0; have := a_add g2 x1; have := a_add x3 g1; have := a_add x3 x2; have := a_add x4 x1; omega) (by have := q1; have := a_add g1 (1 : Int32); have := a_add g2 (1 : Int32); have := q4; have := a_add (g2 + (1 : Int32)) x1; have := a_add x3 (g1 + (1 : Int32)); have := q0; have := a_add g2 x1; have := a_add x3 g1; have := a_add x3 x2; have := a_add x4 x1; omega) (by rw [hL]; exact put_step hl_l2 hl_l1 (by have := q1; have := a_add g1 (1 : Int32); have := a_add g2 (1 : Int32); have := q4; have := a_add (g2 + (1 : Int32)) x1; have := a_add x3 (g1 + (1 : Int32)); have := q0; have := a_add g2 x1; have := a_add x3 g1; have := a_add x3 x2; have := a_add x4 x1; omega)) rfl)
  exact K5 _ x1 x3 l2 (uu) (by have := a_add x3 x2; have := a_add x4 x1; have := q4; omega) (by have := a_add x3 x2; have := a_add x4 x1; have := q4; omega) hl_l2 (Or.inl rfl) (by have := q4; have := a_add x3 x1; have := q0; have := a_add x3 x2; have := a_add x4 x1; omega) (by have := q4; have := a_add x3 x1; have := q0; have := a_add x3 x2; have := a_add x4 x1; omega) (by have := q4; have := a_add x3 x1; have := q0; have := a_add x3 x2; have := a_add x4 x1; omega) (put_first _ _ _ _) rfl
theorem c45_append {Z a0} (hw : HW a0 Z) (hs : SF Z) {p1 p2 p3 : Addr} {x1 : Int32} (hx1 : 0 ≤ x1.toInt ∧ x1.toInt ≤ 7) {x2 : Int32} (hx2 : 0 ≤ x2.toInt ∧ x2.toInt ≤ 7) {x3 : Int32} (hx3 : 0 ≤ x3.toInt ∧ x3.toInt ≤ 7) {x4 : Int32} (hx4 : 0 ≤ x4.toInt ∧ x4.toInt ≤ 7) {l1 : List Int32} (hl_l1 : (l1.length : Int) = (4 : Int32).toInt) (hb_l1 : ∀ x ∈ l1, 0 ≤ x.toInt ∧ x.toInt ≤ 255) {l2 : List Int32} (hl_l2 : (l2.length : Int) = x4.toInt) (hr0 : (x1 + x2).toInt ≤ (4 : Int32).toInt) (hr1 : x3.toInt ≤ x4.toInt) {ad_p3 : String} {w_p2 : Bool} {ad_p2 : String} {F : List Ent} (mp2 : (p2, w_p2, ar ad_p2 .char (lm l1)) ∈ F) : Con Z EL y22 y22b 5 y22r (rmm 4 1 31 77) [(vr p1), (vr p2), (vi x1), (vi x2)] ((p1, true, oStringBuilder (vr p3) (vi 0) (vi x3)) :: (p3, true, ar ad_p3 .byte (lm l2)) :: F) (fun v D' => (Cd .le ((x3 + x2) - x4) (0 : Int32) ∧ (((put l2 x3.toInt.toNat l1 x1.toInt.toNat x2.toInt.toNat)).length : Int) = x4.toInt ∧ v = some (vr p1) ∧ (p3, true, ar ad_p3 .byte (lm (put l2 x3.toInt.toNat l1 x1.toInt.toNat x2.toInt.toNat))) :: (p1, true, oStringBuilder (vr p3) (vi 0) (vi (x3 + x2))) :: F = D') ∨ (∃ a1 : Addr, ¬ Cd .le ((x3 + x2) - x4) (0 : Int32) ∧ Cd .lt ((x3 + x2) - x4) (x4 + (2 : Int32)) ∧ ¬ Cd .gt x4 (x4 + (x4 + (2 : Int32))) ∧ (((put (cpl l2 (0 : Int32).toInt.toNat (List.replicate (x4 + (x4 + (2 : Int32))).toInt.toNat (0 : Int32)) (0 : Int32).toInt.toNat x4.toInt.toNat) x3.toInt.toNat l1 x1.toInt.toNat x2.toInt.toNat)).length : Int) = (x4 + (x4 + (2 : Int32))).toInt ∧ v = some (vr p1) ∧ (a1, true, ar "[B" .byte (lm (put (cpl l2 (0 : Int32).toInt.toNat (List.replicate (x4 + (x4 + (2 : Int32))).toInt.toNat (0 : Int32)) (0 : Int32).toInt.toNat x4.toInt.toNat) x3.toInt.toNat l1 x1.toInt.toNat x2.toInt.toNat))) :: (p1, true, oStringBuilder (vr a1) (vi 0) (vi (x3 + x2))) :: (p3, true, ar ad_p3 .byte (lm l2)) :: F = D') ∨ (∃ a3 : Addr, ¬ Cd .le ((x3 + x2) - x4) (0 : Int32) ∧ ¬ Cd .lt ((x3 + x2) - x4) (x4 + (2 : Int32)) ∧ ¬ Cd .gt x4 (x4 + ((x3 + x2) - x4)) ∧ (((put (cpl l2 (0 : Int32).toInt.toNat (List.replicate (x4 + ((x3 + x2) - x4)).toInt.toNat (0 : Int32)) (0 : Int32).toInt.toNat x4.toInt.toNat) x3.toInt.toNat l1 x1.toInt.toNat x2.toInt.toNat)).length : Int) = (x4 + ((x3 + x2) - x4)).toInt ∧ v = some (vr p1) ∧ (a3, true, ar "[B" .byte (lm (put (cpl l2 (0 : Int32).toInt.toNat (List.replicate (x4 + ((x3 + x2) - x4)).toInt.toNat (0 : Int32)) (0 : Int32).toInt.toNat x4.toInt.toNat) x3.toInt.toNat l1 x1.toInt.toNat x2.toInt.toNat))) :: (p1, true, oStringBuilder (vr a3) (vi 0) (vi (x3 + x2))) :: (p3, true, ar ad_p3 .byte (lm l2)) :: F = D')) := by
  refine Con.of (ls := #[rv p1, rv p2, iv x1, iv x2, uu]) (by decide +kernel) rfl ?_
  refine W.iloadN d15_0 rfl ?_
  refine W.iloadN d15_1 rfl ?_
  refine W.iadd d15_2 ?_
  refine W.istore (ls' := #[rv p1, rv p2, iv x1, iv x2, iv (x1 + x2)]) d15_3 rfl ?_
  refine W.iloadN d15_5 rfl ?_
  refine W.iload d15_6 rfl ?_
  refine W.aloadN d15_8 rfl rfl ?_
  refine W.alenS (l := l1) (z := (4 : Int32)) d15_9 (mS (mS mp2)) hl_l1 ?_
  refine W.gets d15_10 (wq hw 120 rfl) Via.refl hs.2.2.2.2.2.1 ?_
  refine W.callS (as := [(vi x1), (vi (x1 + x2)), (vi 4), (ifv Z)]) 0 [] d15_13 (wq hw 123 rfl) (wq hw 124 rfl) (wq hw 121 rfl) (wq hw 125 rfl) (c15_checkFromToIndex hw hs (hx1 := hx1) (hx2 := (by have := a_add x1 x2; have := q4; omega)) (hx3 := (by decide)) (hr0 := by have := q0; have := a_add x1 x2; have := q4; omega) (hr1 := by have := a_add x1 x2; have := q4; omega) (hr2 := by have := a_add x1 x2; have := q4; omega)) (by decide) pd_IIILjava_util_function_BiFunction__I rfl rfl rfl rfl (by decide) (fun v D' h => ?_)
  obtain ⟨rfl, rfl⟩ := h
  show W _ _ _ _ _ _ _ _ _ _ _ _ 16 _ [(vi x1)]
  refine W.popv d15_16 rfl ?_
  refine W.aloadN d15_17 rfl rfl ?_
  refine W.aloadN d15_18 rfl rfl ?_
  refine W.getf d15_19 (wq hw 126 rfl) Via.refl m0 m2 ?_
  refine W.iloadN d15_22 rfl ?_
  refine W.iadd d15_23 ?_
  refine W.callP (as := [(vi (x3 + x2))]) 0 [] d15_24 (wq hw 128 rfl) (wq hw 129 rfl) (wq hw 131 rfl) (wq hw 130 rfl) (wq hw 102 rfl) (wq hw 132 rfl) (Hp.exa m0) (c16_ensureCapacityInternal hw hs (hx1 := (by have := a_add x3 x2; have := a_add x1 x2; have := q4; omega)) (hx3 := hx4) (l1 := l2) (hl_l1 := hl_l2) (mp2 := m0)) (by decide) pd_I_V rfl rfl rfl rfl (by decide) (fun v D' h => ?_)
  rcases h with ⟨h1, rfl, rfl⟩ | ⟨a1, h2, h3, h4, hl2, rfl, rfl⟩ | ⟨a3, h5, h6, h7, hl4, rfl, rfl⟩
  ·
   have ih1 := t_le h1
   show W _ _ _ _ _ _ _ _ _ _ _ _ 27 _ []
   refine W.aloadN d15_27 rfl rfl ?_
   refine W.aloadN d15_28 rfl rfl ?_
   refine W.iloadN d15_29 rfl ?_
   refine W.iload d15_30 rfl ?_
   refine W.front 1 (D' := (p3, true, ar ad_p3 .byte (lm l2)) :: (p1, true, oStringBuilder (vr p3) (vi 0) (vi x3)) :: F) rfl rfl ?_
   refine W.callP (as := [(vr p2), (vi x1), (vi (x1 + x2))]) 0 [] d15_32 (wq hw 133 rfl) (wq hw 134 rfl) (wq hw 136 rfl) (wq hw 135 rfl) (wq hw 102 rfl) (wq hw 137 rfl) (Hp.exa m1) (c22_appendChars hw hs (hx1 := hx1) (hx2 := (by have := a_add x1 x2; have := q4; have := a_add x3 x2; have := a_sub (x3 + x2) x4; have := q0; omega)) (hx3 := hx3) (hx4 := hx4) (hr0 := by have := a_add x1 x2; have := q4; have := a_add x3 x2; have := a_sub (x3 + x2) x4; have := q0; omega) (hr1 := by have := a_add x1 x2; have := q4; have := a_add x3 x2; have := a_sub (x3 + x2) x4; have := q0; omega) (hr2 := by have := a_add x1 x2; have := a_add x3 (x1 + x2); have := a_add x4 x1; have := q4; have := a_add x3 x2; have := a_sub (x3 + x2) x4; have := q0; omega) (l1 := l1) (hl_l1 := hl_l1) (hb_l1 := hb_l1) (l2 := l2) (hl_l2 := hl_l2) (mp2 := mp2)) (by decide) pd__CII_V rfl rfl rfl rfl (by decide) (fun v D' h => ?_)
   obtain ⟨hl5, rfl, rfl⟩ := h
   show W _ _ _ _ _ _ _ _ _ _ _ _ 35 _ []
   rw [show ((x3 + (x1 + x2)) - x1) = (x3 + x2) from eqI (by have := a_add x1 x2; have := a_add x3 (x1 + x2); have := a_sub (x3 + (x1 + x2)) x1; have := a_add x3 x2; have := q4; have := a_sub (x3 + x2) x4; have := q0; omega)]
   rw [show ((x1 + x2) - x1) = x2 from eqI (by have := a_add x1 x2; have := a_sub (x1 + x2) x1; have := q4; have := a_add x3 x2; have := a_sub (x3 + x2) x4; have := q0; omega)] at hl5 ⊢
   refine W.aloadN d15_35 rfl rfl ?_
   exact W.areturn d15_36 rfl rfl rfl (by decide) (Or.inl ⟨h1, hl5, rfl, rfl⟩)
  ·
   have ih2 := f_le h2
   have ih3 := t_lt h3
   have ih4 := f_gt h4
   show W _ _ _ _ _ _ _ _ _ _ _ _ 27 _ []
   refine W.aloadN d15_27 rfl rfl ?_
   refine W.aloadN d15_28 rfl rfl ?_
   refine W.iloadN d15_29 rfl ?_
   refine W.iload d15_30 rfl ?_
   refine W.callP (as := [(vr p2), (vi x1), (vi (x1 + x2))]) 0 [] d15_32 (wq hw 133 rfl) (wq hw 134 rfl) (wq hw 136 rfl) (wq hw 135 rfl) (wq hw 102 rfl) (wq hw 137 rfl) (Hp.exa m1) (c46_appendChars hw hs (hx1 := hx1) (hx2 := (by have := a_add x1 x2; have := q4; have := q0; have := a_add x3 x2; have := a_sub (x3 + x2) x4; have := q2; have := a_add x4 (2 : Int32); have := a_add x4 (x4 + (2 : Int32)); omega)) (hx3 := hx3) (hx4 := (by have := q2; have := a_add x4 (2 : Int32); have := a_add x4 (x4 + (2 : Int32)); have := q0; have := a_add x3 x2; have := a_sub (x3 + x2) x4; have := a_add x1 x2; have := q4; omega)) (hr0 := by have := a_add x1 x2; have := q4; have := q0; have := a_add x3 x2; have := a_sub (x3 + x2) x4; have := q2; have := a_add x4 (2 : Int32); have := a_add x4 (x4 + (2 : Int32)); omega) (hr1 := by have := a_add x1 x2; have := q4; have := q0; have := a_add x3 x2; have := a_sub (x3 + x2) x4; have := q2; have := a_add x4 (2 : Int32); have := a_add x4 (x4 + (2 : Int32)); omega) (hr2 := by have := a_add x1 x2; have := a_add x3 (x1 + x2); have := q2; have := a_add x4 (2 : Int32); have := a_add x4 (x4 + (2 : Int32)); have := a_add (x4 + (x4 + (2 : Int32))) x1; have := q4; have := q0; have := a_add x3 x2; have := a_sub (x3 + x2) x4; omega) (l1 := l1) (hl_l1 := hl_l1) (hb_l1 := hb_l1) (l2 := (cpl l2 (0 : Int32).toInt.toNat (List.replicate (x4 + (x4 + (2 : Int32))).toInt.toNat (0 : Int32)) (0 : Int32).toInt.toNat x4.toInt.toNat)) (hl_l2 := hl2) (mp2 := (mS mp2))) (by decide) pd__CII_V rfl rfl rfl rfl (by decide) (fun v D' h => ?_)
   obtain ⟨hl6, rfl, rfl⟩ := h
   show W _ _ _ _ _ _ _ _ _ _ _ _ 35 _ []
   rw [show ((x3 + (x1 + x2)) - x1) = (x3 + x2) from eqI (by have := a_add x1 x2; have := a_add x3 (x1 + x2); have := a_sub (x3 + (x1 + x2)) x1; have := a_add x3 x2; have := q4; have := q0; have := a_sub (x3 + x2) x4; have := q2; have := a_add x4 (2 : Int32); have := a_add x4 (x4 + (2 : Int32)); omega)]
   rw [show ((x1 + x2) - x1) = x2 from eqI (by have := a_add x1 x2; have := a_sub (x1 + x2) x1; have := q4; have := q0; have := a_add x3 x2; have := a_sub (x3 + x2) x4; have := q2; have := a_add x4 (2 : Int32); have := a_add x4 (x4 + (2 : Int32)); omega)] at hl6 ⊢
   refine W.aloadN d15_35 rfl rfl ?_
   exact W.areturn d15_36 rfl rfl rfl (by decide) (Or.inr (Or.inl ⟨a1, h2, h3, h4, hl6, rfl, rfl⟩))
  ·
   have ih5 := f_le h5
   have ih6 := f_lt h6
   have ih7 := f_gt h7
   show W _ _ _ _ _ _ _ _ _ _ _ _ 27 _ []
   refine W.aloadN d15_27 rfl rfl ?_
   refine W.aloadN d15_28 rfl rfl ?_
   refine W.iloadN d15_29 rfl ?_
   refine W.iload d15_30 rfl ?_
   refine W.callP (as := [(vr p2), (vi x1), (vi (x1 + x2))]) 0 [] d15_32 (wq hw 133 rfl) (wq hw 134 rfl) (wq hw 136 rfl) (wq hw 135 rfl) (wq hw 102 rfl) (wq hw 137 rfl) (Hp.exa m1) (c22_appendChars hw hs (hx1 := hx1) (hx2 := (by have := a_add x1 x2; have := q4; have := q0; have := a_add x3 x2; have := a_sub (x3 + x2) x4; have := q2; have := a_add x4 (2 : Int32); have := a_add x4 ((x3 + x2) - x4); omega)) (hx3 := hx3) (hx4 := (by have := a_add x3 x2; have := a_sub (x3 + x2) x4; have := a_add x4 ((x3 + x2) - x4); have := a_add x1 x2; have := q4; have := q0; have := q2; have := a_add x4 (2 : Int32); omega)) (hr0 := by have := a_add x1 x2; have := q4; have := q0; have := a_add x3 x2; have := a_sub (x3 + x2) x4; have := q2; have := a_add x4 (2 : Int32); have := a_add x4 ((x3 + x2) - x4); omega) (hr1 := by have := a_add x1 x2; have := q4; have := q0; have := a_add x3 x2; have := a_sub (x3 + x2) x4; have := q2; have := a_add x4 (2 : Int32); have := a_add x4 ((x3 + x2) - x4); omega) (hr2 := by have := a_add x1 x2; have := a_add x3 (x1 + x2); have := a_add x3 x2; have := a_sub (x3 + x2) x4; have := a_add x4 ((x3 + x2) - x4); have := a_add (x4 + ((x3 + x2) - x4)) x1; have := q4; have := q0; have := q2; have := a_add x4 (2 : Int32); omega) (l1 := l1) (hl_l1 := hl_l1) (hb_l1 := hb_l1) (l2 := (cpl l2 (0 : Int32).toInt.toNat (List.replicate (x4 + ((x3 + x2) - x4)).toInt.toNat (0 : Int32)) (0 : Int32).toInt.toNat x4.toInt.toNat)) (hl_l2 := hl4) (mp2 := (mS mp2))) (by decide) pd__CII_V rfl rfl rfl rfl (by decide) (fun v D' h => ?_)
   obtain ⟨hl7, rfl, rfl⟩ := h
   show W _ _ _ _ _ _ _ _ _ _ _ _ 35 _ []
   rw [show ((x3 + (x1 + x2)) - x1) = (x3 + x2) from eqI (by have := a_add x1 x2; have := a_add x3 (x1 + x2); have := a_sub (x3 + (x1 + x2)) x1; have := a_add x3 x2; have := q4; have := q0; have := a_sub (x3 + x2) x4; have := q2; have := a_add x4 (2 : Int32); have := a_add x4 ((x3 + x2) - x4); omega)]
   rw [show ((x1 + x2) - x1) = x2 from eqI (by have := a_add x1 x2; have := a_sub (x1 + x2) x1; have := q4; have := q0; have := a_add x3 x2; have := a_sub (x3 + x2) x4; have := q2; have := a_add x4 (2 : Int32); have := a_add x4 ((x3 + x2) - x4); omega)] at hl7 ⊢
   refine W.aloadN d15_35 rfl rfl ?_
   exact W.areturn d15_36 rfl rfl rfl (by decide) (Or.inr (Or.inr ⟨a3, h5, h6, h7, hl7, rfl, rfl⟩))
theorem c44_append {Z a0} (hw : HW a0 Z) (hs : SF Z) {p1 p2 p3 : Addr} {x1 : Int32} (hx1 : 0 ≤ x1.toInt ∧ x1.toInt ≤ 7) {x2 : Int32} (hx2 : 0 ≤ x2.toInt ∧ x2.toInt ≤ 7) {x3 : Int32} (hx3 : 0 ≤ x3.toInt ∧ x3.toInt ≤ 7) {x4 : Int32} (hx4 : 0 ≤ x4.toInt ∧ x4.toInt ≤ 7) {l1 : List Int32} (hl_l1 : (l1.length : Int) = (4 : Int32).toInt) (hb_l1 : ∀ x ∈ l1, 0 ≤ x.toInt ∧ x.toInt ≤ 255) {l2 : List Int32} (hl_l2 : (l2.length : Int) = x4.toInt) (hr0 : (x1 + x2).toInt ≤ (4 : Int32).toInt) (hr1 : x3.toInt ≤ x4.toInt) {ad_p3 : String} {w_p2 : Bool} {ad_p2 : String} {F : List Ent} (mp2 : (p2, w_p2, ar ad_p2 .char (lm l1)) ∈ F) : Con Z EL y23 y23b 4 y23r (rmm 5 1 31 93) [(vr p1), (vr p2), (vi x1), (vi x2)] ((p1, true, oStringBuilder (vr p3) (vi 0) (vi x3)) :: (p3, true, ar ad_p3 .byte (lm l2)) :: F) (fun v D' => (Cd .le ((x3 + x2) - x4) (0 : Int32) ∧ (((put l2 x3.toInt.toNat l1 x1.toInt.toNat x2.toInt.toNat)).length : Int) = x4.toInt ∧ v = some (vr p1) ∧ (p3, true, ar ad_p3 .byte (lm (put l2 x3.toInt.toNat l1 x1.toInt.toNat x2.toInt.toNat))) :: (p1, true, oStringBuilder (vr p3) (vi 0) (vi (x3 + x2))) :: F = D') ∨ (∃ a2 : Addr, ¬ Cd .le ((x3 + x2) - x4) (0 : Int32) ∧ Cd .lt ((x3 + x2) - x4) (x4 + (2 : Int32)) ∧ ¬ Cd .gt x4 (x4 + (x4 + (2 : Int32))) ∧ (((put (cpl l2 (0 : Int32).toInt.toNat (List.replicate (x4 + (x4 + (2 : Int32))).toInt.toNat (0 : Int32)) (0 : Int32).toInt.toNat x4.toInt.toNat) x3.toInt.toNat l1 x1.toInt.toNat x2.toInt.toNat)).length : Int) = (x4 + (x4 + (2 : Int32))).toInt ∧ v = some (vr p1) ∧ (a2, true, ar "[B" .byte (lm (put (cpl l2 (0 : Int32).toInt.toNat (List.replicate (x4 + (x4 + (2 : Int32))).toInt.toNat (0 : Int32)) (0 : Int32).toInt.toNat x4.toInt.toNat) x3.toInt.toNat l1 x1.toInt.toNat x2.toInt.toNat))) :: (p1, true, oStringBuilder (vr a2) (vi 0) (vi (x3 + x2))) :: (p3, true, ar ad_p3 .byte (lm l2)) :: F = D') ∨ (∃ a4 : Addr, ¬ Cd .le ((x3 + x2) - x4) (0 : Int32) ∧ ¬ Cd .lt ((x3 + x2) - x4) (x4 + (2 : Int32)) ∧ ¬ Cd .gt x4 (x4 + ((x3 + x2) - x4)) ∧ (((put (cpl l2 (0 : Int32).toInt.toNat (List.replicate (x4 + ((x3 + x2) - x4)).toInt.toNat (0 : Int32)) (0 : Int32).toInt.toNat x4.toInt.toNat) x3.toInt.toNat l1 x1.toInt.toNat x2.toInt.toNat)).length : Int) = (x4 + ((x3 + x2) - x4)).toInt ∧ v = some (vr p1) ∧ (a4, true, ar "[B" .byte (lm (put (cpl l2 (0 : Int32).toInt.toNat (List.replicate (x4 + ((x3 + x2) - x4)).toInt.toNat (0 : Int32)) (0 : Int32).toInt.toNat x4.toInt.toNat) x3.toInt.toNat l1 x1.toInt.toNat x2.toInt.toNat))) :: (p1, true, oStringBuilder (vr a4) (vi 0) (vi (x3 + x2))) :: (p3, true, ar ad_p3 .byte (lm l2)) :: F = D')) := by
  refine Con.of (ls := #[rv p1, rv p2, iv x1, iv x2]) (by decide +kernel) rfl ?_
  refine W.aloadN d14_0 rfl rfl ?_
  refine W.aloadN d14_1 rfl rfl ?_
  refine W.iloadN d14_2 rfl ?_
  refine W.iloadN d14_3 rfl ?_
  refine W.callUp (as := [(vr p2), (vi x1), (vi x2)]) 0 [] d14_4 (wq hw 115 rfl) (same_self (by rfl) (by decide) (wq hw 116 rfl) (wq hw 129 rfl) (wq hw 131 rfl)) (wq hw 116 rfl) (wq hw 117 rfl) (by decide) (wq hw 102 rfl) (wq hw 119 rfl) (Hp.ins m0) (c45_append hw hs (hx1 := hx1) (hx2 := hx2) (hx3 := hx3) (hx4 := hx4) (hr0 := by have := a_add x1 x2; have := q4; omega) (hr1 := by omega) (l1 := l1) (hl_l1 := hl_l1) (hb_l1 := hb_l1) (l2 := l2) (hl_l2 := hl_l2) (mp2 := mp2)) pd__CII_Ljava_lang_AbstractStringBuilder_ rfl rfl rfl rfl (by decide) (fun v D' h => ?_)
  rcases h with ⟨h1, hl1, rfl, rfl⟩ | ⟨a2, h2, h3, h4, hl3, rfl, rfl⟩ | ⟨a4, h5, h6, h7, hl5, rfl, rfl⟩
  ·
   have ih1 := t_le h1
   show W _ _ _ _ _ _ _ _ _ _ _ _ 7 _ [(vr p1)]
   refine W.popv d14_7 rfl ?_
   refine W.aloadN d14_8 rfl rfl ?_
   exact W.areturn d14_9 rfl rfl rfl (by decide) (Or.inl ⟨h1, hl1, rfl, rfl⟩)
  ·
   have ih2 := f_le h2
   have ih3 := t_lt h3
   have ih4 := f_gt h4
   show W _ _ _ _ _ _ _ _ _ _ _ _ 7 _ [(vr p1)]
   refine W.popv d14_7 rfl ?_
   refine W.aloadN d14_8 rfl rfl ?_
   exact W.areturn d14_9 rfl rfl rfl (by decide) (Or.inr (Or.inl ⟨a2, h2, h3, h4, hl3, rfl, rfl⟩))
  ·
   have ih5 := f_le h5
   have ih6 := f_lt h6
   have ih7 := f_gt h7
   show W _ _ _ _ _ _ _ _ _ _ _ _ 7 _ [(vr p1)]
   refine W.popv d14_7 rfl ?_
   refine W.aloadN d14_8 rfl rfl ?_
   exact W.areturn d14_9 rfl rfl rfl (by decide) (Or.inr (Or.inr ⟨a4, h5, h6, h7, hl5, rfl, rfl⟩))
theorem c43_appendText {Z a0} (hw : HW a0 Z) (hs : SF Z) {p1 p2 p7 p11 : Addr} {x1 : Int32} (hx1 : 0 ≤ x1.toInt ∧ x1.toInt ≤ 7) {x2 : Int32} (hx2 : 0 ≤ x2.toInt ∧ x2.toInt ≤ 7) {x3 : Int32} (hx3 : 0 ≤ x3.toInt ∧ x3.toInt ≤ 7) {x4 : Int32} (hx4 : 0 ≤ x4.toInt ∧ x4.toInt ≤ 7) {l1 : List Int32} (hl_l1 : (l1.length : Int) = (4 : Int32).toInt) (hb_l1 : ∀ x ∈ l1, 0 ≤ x.toInt ∧ x.toInt ≤ 255) {l2 : List Int32} (hl_l2 : (l2.length : Int) = x4.toInt) (hr0 : (x1 + x2).toInt ≤ (4 : Int32).toInt) (hr1 : x3.toInt ≤ x4.toInt) {f_p1_0 f_p1_1 f_p1_2 f_p1_3 f_p1_4 f_p1_5 f_p1_6 : Value} {ad_p11 : String} {w_p1 : Bool} {w_p2 : Bool} {ad_p2 : String} {F : List Ent} (mp1 : (p1, w_p1, oXmlElement f_p1_0 f_p1_1 f_p1_2 f_p1_3 f_p1_4 f_p1_5 f_p1_6 (vr p7)) ∈ F) (mp2 : (p2, w_p2, ar ad_p2 .char (lm l1)) ∈ F) : Con Z EL y24 y24b 4 y24r (rmm 6 1 31 108) [(vr p1), (vr p2), (vi x1), (vi x2)] ((p7, true, oStringBuilder (vr p11) (vi 0) (vi x3)) :: (p11, true, ar ad_p11 .byte (lm l2)) :: F) (fun v D' => (Cd .le ((x3 + x2) - x4) (0 : Int32) ∧ (((put l2 x3.toInt.toNat l1 x1.toInt.toNat x2.toInt.toNat)).length : Int) = x4.toInt ∧ v = none ∧ (p11, true, ar ad_p11 .byte (lm (put l2 x3.toInt.toNat l1 x1.toInt.toNat x2.toInt.toNat))) :: (p7, true, oStringBuilder (vr p11) (vi 0) (vi (x3 + x2))) :: F = D') ∨ (∃ a2 : Addr, ¬ Cd .le ((x3 + x2) - x4) (0 : Int32) ∧ Cd .lt ((x3 + x2) - x4) (x4 + (2 : Int32)) ∧ ¬ Cd .gt x4 (x4 + (x4 + (2 : Int32))) ∧ (((put (cpl l2 (0 : Int32).toInt.toNat (List.replicate (x4 + (x4 + (2 : Int32))).toInt.toNat (0 : Int32)) (0 : Int32).toInt.toNat x4.toInt.toNat) x3.toInt.toNat l1 x1.toInt.toNat x2.toInt.toNat)).length : Int) = (x4 + (x4 + (2 : Int32))).toInt ∧ v = none ∧ (a2, true, ar "[B" .byte (lm (put (cpl l2 (0 : Int32).toInt.toNat (List.replicate (x4 + (x4 + (2 : Int32))).toInt.toNat (0 : Int32)) (0 : Int32).toInt.toNat x4.toInt.toNat) x3.toInt.toNat l1 x1.toInt.toNat x2.toInt.toNat))) :: (p7, true, oStringBuilder (vr a2) (vi 0) (vi (x3 + x2))) :: (p11, true, ar ad_p11 .byte (lm l2)) :: F = D') ∨ (∃ a4 : Addr, ¬ Cd .le ((x3 + x2) - x4) (0 : Int32) ∧ ¬ Cd .lt ((x3 + x2) - x4) (x4 + (2 : Int32)) ∧ ¬ Cd .gt x4 (x4 + ((x3 + x2) - x4)) ∧ (((put (cpl l2 (0 : Int32).toInt.toNat (List.replicate (x4 + ((x3 + x2) - x4)).toInt.toNat (0 : Int32)) (0 : Int32).toInt.toNat x4.toInt.toNat) x3.toInt.toNat l1 x1.toInt.toNat x2.toInt.toNat)).length : Int) = (x4 + ((x3 + x2) - x4)).toInt ∧ v = none ∧ (a4, true, ar "[B" .byte (lm (put (cpl l2 (0 : Int32).toInt.toNat (List.replicate (x4 + ((x3 + x2) - x4)).toInt.toNat (0 : Int32)) (0 : Int32).toInt.toNat x4.toInt.toNat) x3.toInt.toNat l1 x1.toInt.toNat x2.toInt.toNat))) :: (p7, true, oStringBuilder (vr a4) (vi 0) (vi (x3 + x2))) :: (p11, true, ar ad_p11 .byte (lm l2)) :: F = D')) := by
  refine Con.of (ls := #[rv p1, rv p2, iv x1, iv x2]) (by decide +kernel) rfl ?_
  refine W.aloadN d11_0 rfl rfl ?_
  refine W.getf d11_1 (wq hw 62 rfl) Via.refl (mS (mS mp1)) m7 ?_
  refine W.ifnonnullY 19 d11_4 (by decide) ?_
  refine W.aloadN d11_19 rfl rfl ?_
  refine W.getf d11_20 (wq hw 62 rfl) Via.refl (mS (mS mp1)) m7 ?_
  refine W.aloadN d11_23 rfl rfl ?_
  refine W.iloadN d11_24 rfl ?_
  refine W.iloadN d11_25 rfl ?_
  refine W.callV (as := [(vr p2), (vi x1), (vi x2)]) 0 [] d11_26 (wq hw 110 rfl) (wq hw 111 rfl) (wq hw 113 rfl) (wq hw 113 rfl) (wq hw 112 rfl) (wq hw 94 rfl) (wq hw 114 rfl) (Hp.exa m0) (c44_append hw hs (hx1 := hx1) (hx2 := hx2) (hx3 := hx3) (hx4 := hx4) (hr0 := by have := a_add x1 x2; have := q4; omega) (hr1 := by omega) (l1 := l1) (hl_l1 := hl_l1) (hb_l1 := hb_l1) (l2 := l2) (hl_l2 := hl_l2) (mp2 := mp2)) (by decide) pd__CII_Ljava_lang_StringBuilder_ rfl rfl rfl rfl (by decide) (fun v D' h => ?_)
  rcases h with ⟨h1, hl1, rfl, rfl⟩ | ⟨a2, h2, h3, h4, hl3, rfl, rfl⟩ | ⟨a4, h5, h6, h7, hl5, rfl, rfl⟩
  ·
   have ih1 := t_le h1
   show W _ _ _ _ _ _ _ _ _ _ _ _ 29 _ [(vr p7)]
   refine W.popv d11_29 rfl ?_
   exact W.return_ d11_30 rfl (by decide) (Or.inl ⟨h1, hl1, rfl, rfl⟩)
  ·
   have ih2 := f_le h2
   have ih3 := t_lt h3
   have ih4 := f_gt h4
   show W _ _ _ _ _ _ _ _ _ _ _ _ 29 _ [(vr p7)]
   refine W.popv d11_29 rfl ?_
   exact W.return_ d11_30 rfl (by decide) (Or.inr (Or.inl ⟨a2, h2, h3, h4, hl3, rfl, rfl⟩))
  ·
   have ih5 := f_le h5
   have ih6 := f_lt h6
   have ih7 := f_gt h7
   show W _ _ _ _ _ _ _ _ _ _ _ _ 29 _ [(vr p7)]
   refine W.popv d11_29 rfl ?_
   exact W.return_ d11_30 rfl (by decide) (Or.inr (Or.inr ⟨a4, h5, h6, h7, hl5, rfl, rfl⟩))
theorem c52_length {Z a0} (hw : HW a0 Z) (hs : SF Z) {p1 : Addr} {x1 : Int32} (hx1 : 0 ≤ x1.toInt ∧ x1.toInt ≤ 15) {f_p1_0 f_p1_1 : Value} {w_p1 : Bool} {F : List Ent} (mp1 : (p1, w_p1, oStringBuilder f_p1_0 f_p1_1 (vi x1)) ∈ F) : Con Z EL y26 y26b 1 y26r (rmm 0 0 0 0) [(vr p1)] (F) (fun v D' => (v = some (vi x1) ∧ F = D')) := by
  refine Con.of (ls := #[rv p1]) (by decide +kernel) rfl ?_
  refine W.aloadN d31_0 rfl rfl ?_
  refine W.getf d31_1 (wq hw 126 rfl) Via.refl mp1 m2 ?_
  exact W.ireturn d31_4 rfl (Or.inl rfl) rfl (by decide) ⟨rfl, rfl⟩
theorem c51_length {Z a0} (hw : HW a0 Z) (hs : SF Z) {p1 : Addr} {x1 : Int32} (hx1 : 0 ≤ x1.toInt ∧ x1.toInt ≤ 15) {f_p1_0 f_p1_1 : Value} {w_p1 : Bool} {F : List Ent} (mp1 : (p1, w_p1, oStringBuilder f_p1_0 f_p1_1 (vi x1)) ∈ F) : Con Z EL y27 y27b 1 y27r (rmm 1 0 0 12) [(vr p1)] (F) (fun v D' => (v = some (vi x1) ∧ F = D')) := by
  refine Con.of (ls := #[rv p1]) (by decide +kernel) rfl ?_
  refine W.aloadN d30_0 rfl rfl ?_
  refine W.callUp (as := []) 0 [] d30_1 (wq hw 198 rfl) (same_self (by rfl) (by decide) (wq hw 194 rfl) (wq hw 129 rfl) (wq hw 131 rfl)) (wq hw 194 rfl) (wq hw 117 rfl) (by decide) (wq hw 102 rfl) (wq hw 199 rfl) (Hp.ins mp1) (c52_length hw hs (hx1 := hx1) (mp1 := mp1)) pd__I rfl rfl rfl rfl (by decide) (fun v D' h => ?_)
  obtain ⟨rfl, rfl⟩ := h
  show W _ _ _ _ _ _ _ _ _ _ _ _ 4 _ [(vi x1)]
  exact W.ireturn d30_4 rfl (Or.inl rfl) rfl (by decide) ⟨rfl, rfl⟩
theorem c55_checkLength {Z a0} (hw : HW a0 Z) (hs : SF Z) {x1 : Int32} (hx1 : 0 ≤ x1.toInt ∧ x1.toInt ≤ 15) {F : List Ent} : Con Z EL y28 y28b 2 y28r (rmm 0 0 0 0) [(vi 0), (vi x1)] (F) (fun v D' => (v = none ∧ F = D')) := by
  refine Con.of (ls := #[iv 0, iv x1]) (by decide +kernel) rfl ?_
  refine W.iloadN d34_0 rfl ?_
  refine W.iloadN d34_1 rfl ?_
  refine W.icmpY 37 d34_2 (y_ge (by have := q0; omega)) (by decide) ?_
  exact W.return_ d34_37 rfl (by decide) ⟨rfl, rfl⟩
theorem c56_min {Z a0} (hw : HW a0 Z) (hs : SF Z) {x1 : Int32} (hx1 : 0 ≤ x1.toInt ∧ x1.toInt ≤ 15) {x2 : Int32} (hx2 : 0 ≤ x2.toInt ∧ x2.toInt ≤ 15) {F : List Ent} : Con Z EL y16 y16b 2 y16r (rmm 0 0 0 0) [(vi x1), (vi x2)] (F) (fun v D' => (Cd .gt x1 x2 ∧ v = some (vi x2) ∧ F = D') ∨ (¬ Cd .gt x1 x2 ∧ v = some (vi x1) ∧ F = D')) := by
  refine Con.of (ls := #[iv x1, iv x2]) (by decide +kernel) rfl ?_
  refine W.iloadN d25_0 rfl ?_
  refine W.iloadN d25_1 rfl ?_
  refine W.icmp 9 d25_2 (by decide) (fun h1 => ?_) (fun h1 => ?_)
  ·
   have ih1 := t_gt h1
   refine W.iloadN d25_9 rfl ?_
   exact W.ireturn d25_10 rfl (Or.inl rfl) rfl (by decide) (Or.inl ⟨h1, rfl, rfl⟩)
  ·
   have ih1 := f_gt h1
   refine W.iloadN d25_5 rfl ?_
   refine W.goto 10 d25_6 (by decide) ?_
   exact W.ireturn d25_10 rfl (Or.inl rfl) rfl (by decide) (Or.inr ⟨h1, rfl, rfl⟩)
theorem c54_copyOfRangeByte {Z a0} (hw : HW a0 Z) (hs : SF Z) {p1 : Addr} {x1 : Int32} (hx1 : 0 ≤ x1.toInt ∧ x1.toInt ≤ 15) {x2 : Int32} (hx2 : 0 ≤ x2.toInt ∧ x2.toInt ≤ 15) {l1 : List Int32} (hl_l1 : (l1.length : Int) = x2.toInt) (hr0 : x1.toInt < x2.toInt) {w_p1 : Bool} {ad_p1 : String} {F : List Ent} (mp1 : (p1, w_p1, ar ad_p1 .byte (lm l1)) ∈ F) : Con Z EL y29 y29b 5 y29r (rmm 1 1 31 48) [(vr p1), (vi 0), (vi x1)] (F) (fun v D' => (∃ a1 : Addr, Cd .gt x2 x1 ∧ (((cpl l1 (0 : Int32).toInt.toNat (List.replicate x1.toInt.toNat (0 : Int32)) (0 : Int32).toInt.toNat x1.toInt.toNat)).length : Int) = x1.toInt ∧ v = some (vr a1) ∧ (a1, true, ar "[B" .byte (lm (cpl l1 (0 : Int32).toInt.toNat (List.replicate x1.toInt.toNat (0 : Int32)) (0 : Int32).toInt.toNat x1.toInt.toNat))) :: F = D')) := by
  refine Con.of (ls := #[rv p1, iv 0, iv x1, uu, uu]) (by decide +kernel) rfl ?_
  refine W.iloadN d33_0 rfl ?_
  refine W.iloadN d33_1 rfl ?_
  refine W.callS (as := [(vi 0), (vi x1)]) 0 [] d33_2 (wq hw 207 rfl) (wq hw 208 rfl) (wq hw 164 rfl) (wq hw 209 rfl) (c55_checkLength hw hs (hx1 := hx1)) (by decide) pd_II_V rfl rfl rfl rfl (by decide) (fun v D' h => ?_)
  obtain ⟨rfl, rfl⟩ := h
  show W _ _ _ _ _ _ _ _ _ _ _ _ 5 _ []
  refine W.iloadN d33_5 rfl ?_
  refine W.iloadN d33_6 rfl ?_
  refine W.isubK x1 d33_7 (z_sub0 x1) ?_
  refine W.istoreN (ls' := #[rv p1, iv 0, iv x1, iv x1, uu]) d33_8 rfl ?_
  refine W.iloadN d33_9 rfl ?_
  have hl2 := len_rep (z := x1) (by have := q0; omega)
  refine W.newarrB 31 d33_10 (wq hw 7 rfl) (by have := q0; have := q31; omega) (by decide) (by decide) (fun a1 => ?_)
  show W _ _ _ _ _ _ _ _ _ _ _ _ 12 _ [(vr a1)]
  refine W.astore (ls' := #[rv p1, iv 0, iv x1, iv x1, rv a1]) d33_12 rfl rfl ?_
  refine W.aloadN d33_14 rfl rfl ?_
  refine W.iloadN d33_15 rfl ?_
  refine W.aload 4 d33_16 rfl rfl ?_
  refine W.iconst (0) d33_18 (by decide) ?_
  refine W.aloadN d33_19 rfl rfl ?_
  refine W.alenS (l := l1) (z := x2) d33_20 (mS mp1) hl_l1 ?_
  refine W.iloadN d33_21 rfl ?_
  refine W.isubK x2 d33_22 (z_sub0 x2) ?_
  refine W.iloadN d33_23 rfl ?_
  refine W.callS (as := [(vi x2), (vi x1)]) 4 [(vi 0), (vr a1), (vi 0), (vr p1)] d33_24 (wq hw 166 rfl) (wq hw 167 rfl) (wq hw 158 rfl) (wq hw 168 rfl) (c56_min hw hs (hx1 := hx2) (hx2 := hx1)) (by decide) pd_II_I rfl rfl rfl rfl (by decide) (fun v D' h => ?_)
  rcases h with ⟨h1, rfl, rfl⟩ | ⟨h2, rfl, rfl⟩
  ·
   have ih1 := t_gt h1
   show W _ _ _ _ _ _ _ _ _ _ _ _ 27 _ [(vi x1), (vi 0), (vr a1), (vi 0), (vr p1)]
   have hl3 := len_cplI (l1 := l1) (l2 := (List.replicate x1.toInt.toNat (0 : Int32))) (s := (0 : Int32)) (d := (0 : Int32)) (n := x1) hl_l1 hl2 (by have := q0; omega)
   refine W.cpyS (l1 := l1) (l2 := (List.replicate x1.toInt.toNat (0 : Int32))) (D' := (a1, true, ar "[B" .byte (lm (cpl l1 (0 : Int32).toInt.toNat (List.replicate x1.toInt.toNat (0 : Int32)) (0 : Int32).toInt.toNat x1.toInt.toNat))) :: F) 0 0 d33_27 (wq hw 169 rfl) (wq hw 172 rfl) (wq hw 170 rfl) (wq hw 171 rfl) (mS mp1) rfl rfl (by have := hl_l1; have := hl2; have := q0; omega) rfl rfl (by decide) rfl ?_
   refine W.aload 4 d33_30 rfl rfl ?_
   exact W.areturn d33_32 rfl rfl rfl (by decide) ⟨a1, h1, hl3, rfl, rfl⟩
  ·
   exact absurd h2 (Classical.not_not.mpr (y_gt (by omega)))
theorem c53_copyOfRange {Z a0} (hw : HW a0 Z) (hs : SF Z) {p1 : Addr} {x1 : Int32} (hx1 : 0 ≤ x1.toInt ∧ x1.toInt ≤ 15) {x2 : Int32} (hx2 : 0 ≤ x2.toInt ∧ x2.toInt ≤ 15) {l1 : List Int32} (hl_l1 : (l1.length : Int) = x2.toInt) (hr0 : x1.toInt ≤ x2.toInt) {w_p1 : Bool} {F : List Ent} (mp1 : (p1, w_p1, ar "[B" .byte (lm l1)) ∈ F) : Con Z EL y30 y30b 3 y30r (rmm 2 1 31 64) [(vr p1), (vi 0), (vi x1)] (F) (fun v D' => (∃ a1 : Addr, Cd .eq x1 x2 ∧ v = some (vr a1) ∧ (a1, true, ar "[B" .byte (lm l1)) :: F = D') ∨ (∃ a2 : Addr, ¬ Cd .eq x1 x2 ∧ Cd .gt x2 x1 ∧ (((cpl l1 (0 : Int32).toInt.toNat (List.replicate x1.toInt.toNat (0 : Int32)) (0 : Int32).toInt.toNat x1.toInt.toNat)).length : Int) = x1.toInt ∧ v = some (vr a2) ∧ (a2, true, ar "[B" .byte (lm (cpl l1 (0 : Int32).toInt.toNat (List.replicate x1.toInt.toNat (0 : Int32)) (0 : Int32).toInt.toNat x1.toInt.toNat))) :: F = D')) := by
  refine Con.of (ls := #[rv p1, iv 0, iv x1]) (by decide +kernel) rfl ?_
  refine W.iloadN d32_0 rfl ?_
  refine W.ifN d32_1 (n_ne (by decide)) ?_
  refine W.iloadN d32_4 rfl ?_
  refine W.aloadN d32_5 rfl rfl ?_
  refine W.alenS (l := l1) (z := x2) d32_6 mp1 hl_l1 ?_
  refine W.icmp 17 d32_7 (by decide) (fun h1 => ?_) (fun h1 => ?_)
  ·
   have ih1 := t_eq h1
   refine W.aloadN d32_17 rfl rfl ?_
   refine W.cloneS (l := l1) 0 31 d32_18 (wq hw 230 rfl) (wq hw 231 rfl) (wq hw 235 rfl) (wq hw 233 rfl) (wq hw 234 rfl) (wq hw 236 rfl) mp1 (by decide) (by have := hl_l1; have := q31; omega) rfl rfl (by decide) (fun a1 => ?_)
   show W _ _ _ _ _ _ _ _ _ _ _ _ 21 _ [(vr a1)]
   refine W.castY d32_21 (wq hw 237 rfl) (Hp.insA m0 (by decide)) ?_
   exact W.areturn d32_24 rfl rfl rfl (by decide) (Or.inl ⟨a1, h1, rfl, rfl⟩)
  ·
   have ih1 := f_eq h1
   refine W.aloadN d32_10 rfl rfl ?_
   refine W.iloadN d32_11 rfl ?_
   refine W.iloadN d32_12 rfl ?_
   refine W.callS (as := [(vr p1), (vi 0), (vi x1)]) 0 [] d32_13 (wq hw 204 rfl) (wq hw 205 rfl) (wq hw 164 rfl) (wq hw 206 rfl) (c54_copyOfRangeByte hw hs (hx1 := hx1) (hx2 := hx2) (hr0 := by omega) (l1 := l1) (hl_l1 := hl_l1) (mp1 := mp1)) (by decide) pd__BII__B rfl rfl rfl rfl (by decide) (fun v D' h => ?_)
   obtain ⟨a2, h2, hl3, rfl, rfl⟩ := h
   have ih2 := t_gt h2
   show W _ _ _ _ _ _ _ _ _ _ _ _ 16 _ [(vr a2)]
   exact W.areturn d32_16 rfl rfl rfl (by decide) (Or.inr ⟨a2, h1, h2, hl3, rfl, rfl⟩)
theorem c50_init {Z a0} (hw : HW a0 Z) (hs : SF Z) {p1 p2 p3 : Addr} {x1 : Int32} (hx1 : 0 ≤ x1.toInt ∧ x1.toInt ≤ 15) {x2 : Int32} (hx2 : 0 ≤ x2.toInt ∧ x2.toInt ≤ 15) {l1 : List Int32} (hl_l1 : (l1.length : Int) = x2.toInt) (hr0 : x1.toInt ≤ x2.toInt) {w_p2 : Bool} {w_p3 : Bool} {F : List Ent} (mp2 : (p2, w_p2, oStringBuilder (vr p3) (vi 0) (vi x1)) ∈ F) (mp3 : (p3, w_p3, ar "[B" .byte (lm l1)) ∈ F) : Con Z EL y31 y31b 5 y31r (rmm 3 1 31 79) [(vr p1), (vr p2), .null] ((p1, true, oString .null (vi 0)) :: F) (fun v D' => (∃ a1 : Addr, Cd .eq x1 x2 ∧ v = none ∧ (a1, true, ar "[B" .byte (lm l1)) :: (p1, true, oString (vr a1) (vi 0)) :: F = D') ∨ (∃ a2 : Addr, ¬ Cd .eq x1 x2 ∧ Cd .gt x2 x1 ∧ (((cpl l1 (0 : Int32).toInt.toNat (List.replicate x1.toInt.toNat (0 : Int32)) (0 : Int32).toInt.toNat x1.toInt.toNat)).length : Int) = x1.toInt ∧ v = none ∧ (a2, true, ar "[B" .byte (lm (cpl l1 (0 : Int32).toInt.toNat (List.replicate x1.toInt.toNat (0 : Int32)) (0 : Int32).toInt.toNat x1.toInt.toNat))) :: (p1, true, oString (vr a2) (vi 0)) :: F = D')) := by
  refine Con.of (ls := #[rv p1, rv p2, .val .null, uu, uu]) (by decide +kernel) rfl ?_
  refine W.aloadN d28_0 rfl rfl ?_
  refine W.initO 0 d28_1 (wq hw 186 rfl) (wq hw 17 rfl) (wq hw 18 rfl) rfl rfl (by decide) ?_
  refine W.aloadN d28_4 rfl rfl ?_
  refine W.callV (as := []) 0 [] d28_5 (wq hw 187 rfl) (wq hw 188 rfl) (wq hw 190 rfl) (wq hw 190 rfl) (wq hw 189 rfl) (wq hw 102 rfl) (wq hw 191 rfl) (Hp.exa (mS mp2)) (c30_getValue hw hs (mp1 := (mS mp2))) (by decide) pd___B rfl rfl rfl rfl (by decide) (fun v D' h => ?_)
  obtain ⟨rfl, rfl⟩ := h
  show W _ _ _ _ _ _ _ _ _ _ _ _ 8 _ [(vr p3)]
  refine W.astoreN (ls' := #[rv p1, rv p2, .val .null, rv p3, uu]) d28_8 rfl rfl ?_
  refine W.aloadN d28_9 rfl rfl ?_
  refine W.callVN (as := []) 0 [] d28_10 (wq hw 192 rfl) (wq hw 193 rfl) (by rfl) (wq hw 129 rfl) (wq hw 131 rfl) (wq hw 195 rfl) (wq hw 196 rfl) (wq hw 94 rfl) (wq hw 197 rfl) (Hp.exa (mS mp2)) (c51_length hw hs (hx1 := hx1) (mp1 := (mS mp2))) (by decide) pd__I rfl rfl rfl rfl (by decide) (fun v D' h => ?_)
  obtain ⟨rfl, rfl⟩ := h
  show W _ _ _ _ _ _ _ _ _ _ _ _ 13 _ [(vi x1)]
  refine W.istore (ls' := #[rv p1, rv p2, .val .null, rv p3, iv x1]) d28_13 rfl ?_
  refine W.aloadN d28_15 rfl rfl ?_
  refine W.callV (as := []) 0 [] d28_16 (wq hw 200 rfl) (wq hw 139 rfl) (wq hw 141 rfl) (wq hw 141 rfl) (wq hw 140 rfl) (wq hw 102 rfl) (wq hw 142 rfl) (Hp.exa (mS mp2)) (c23_isLatin1 hw hs (mp1 := (mS mp2))) (by decide) pd__Z rfl rfl rfl rfl (by decide) (fun v D' h => ?_)
  obtain ⟨rfl, rfl⟩ := h
  show W _ _ _ _ _ _ _ _ _ _ _ _ 19 _ [(vi 1)]
  refine W.ifN d28_19 (n_eq (by decide)) ?_
  refine W.aloadN d28_22 rfl rfl ?_
  refine W.iconst (0) d28_23 (by decide) ?_
  refine W.putf (D' := (p1, true, oString .null (vi 0)) :: F) 0 1 d28_24 (wq hw 82 rfl) Via.refl rfl rfl (Or.inr ⟨(wq hw 9 rfl), rfl, rfl⟩) (wq hw 6 rfl) pfB (nw_byte (by decide)) (ft_byte (by decide)) rfl ?_
  refine W.aloadN d28_27 rfl rfl ?_
  refine W.aloadN d28_28 rfl rfl ?_
  refine W.iconst (0) d28_29 (by decide) ?_
  refine W.iload d28_30 rfl ?_
  refine W.callS (as := [(vr p3), (vi 0), (vi x1)]) 1 [(vr p1)] d28_32 (wq hw 201 rfl) (wq hw 202 rfl) (wq hw 164 rfl) (wq hw 203 rfl) (c53_copyOfRange hw hs (hx1 := hx1) (hx2 := hx2) (hr0 := by omega) (l1 := l1) (hl_l1 := hl_l1) (mp1 := (mS mp3))) (by decide) pd__BII__B rfl rfl rfl rfl (by decide) (fun v D' h => ?_)
  rcases h with ⟨a1, h1, rfl, rfl⟩ | ⟨a2, h2, h3, hl3, rfl, rfl⟩
  ·
   have ih1 := t_eq h1
   show W _ _ _ _ _ _ _ _ _ _ _ _ 35 _ [(vr a1), (vr p1)]
   refine W.putf (D' := (a1, true, ar "[B" .byte (lm l1)) :: (p1, true, oString (vr a1) (vi 0)) :: F) 1 0 d28_35 (wq hw 70 rfl) Via.refl rfl rfl (Or.inr ⟨(wq hw 8 rfl), rfl, rfl⟩) (wq hw 6 rfl) pf_B rfl rfl rfl ?_
   refine W.goto 97 d28_38 (by decide) ?_
   exact W.return_ d28_97 rfl (by decide) (Or.inl ⟨a1, h1, rfl, rfl⟩)
  ·
   have ih2 := f_eq h2
   have ih3 := t_gt h3
   show W _ _ _ _ _ _ _ _ _ _ _ _ 35 _ [(vr a2), (vr p1)]
   refine W.putf (D' := (a2, true, ar "[B" .byte (lm (cpl l1 (0 : Int32).toInt.toNat (List.replicate x1.toInt.toNat (0 : Int32)) (0 : Int32).toInt.toNat x1.toInt.toNat))) :: (p1, true, oString (vr a2) (vi 0)) :: F) 1 0 d28_35 (wq hw 70 rfl) Via.refl rfl rfl (Or.inr ⟨(wq hw 8 rfl), rfl, rfl⟩) (wq hw 6 rfl) pf_B rfl rfl rfl ?_
   refine W.goto 97 d28_38 (by decide) ?_
   exact W.return_ d28_97 rfl (by decide) (Or.inr ⟨a2, h2, h3, hl3, rfl, rfl⟩)
theorem c49_init {Z a0} (hw : HW a0 Z) (hs : SF Z) {p1 p2 p3 : Addr} {x1 : Int32} (hx1 : 0 ≤ x1.toInt ∧ x1.toInt ≤ 15) {x2 : Int32} (hx2 : 0 ≤ x2.toInt ∧ x2.toInt ≤ 15) {l1 : List Int32} (hl_l1 : (l1.length : Int) = x2.toInt) (hr0 : x1.toInt ≤ x2.toInt) {w_p2 : Bool} {w_p3 : Bool} {F : List Ent} (mp2 : (p2, w_p2, oStringBuilder (vr p3) (vi 0) (vi x1)) ∈ F) (mp3 : (p3, w_p3, ar "[B" .byte (lm l1)) ∈ F) : Con Z EL y32 y32b 2 y32r (rmm 4 1 31 95) [(vr p1), (vr p2)] ((p1, true, oString .null (vi 0)) :: F) (fun v D' => (∃ a1 : Addr, Cd .eq x1 x2 ∧ v = none ∧ (a1, true, ar "[B" .byte (lm l1)) :: (p1, true, oString (vr a1) (vi 0)) :: F = D') ∨ (∃ a2 : Addr, ¬ Cd .eq x1 x2 ∧ Cd .gt x2 x1 ∧ (((cpl l1 (0 : Int32).toInt.toNat (List.replicate x1.toInt.toNat (0 : Int32)) (0 : Int32).toInt.toNat x1.toInt.toNat)).length : Int) = x1.toInt ∧ v = none ∧ (a2, true, ar "[B" .byte (lm (cpl l1 (0 : Int32).toInt.toNat (List.replicate x1.toInt.toNat (0 : Int32)) (0 : Int32).toInt.toNat x1.toInt.toNat))) :: (p1, true, oString (vr a2) (vi 0)) :: F = D')) := by
  refine Con.of (ls := #[rv p1, rv p2]) (by decide +kernel) rfl ?_
  refine W.aloadN d27_0 rfl rfl ?_
  refine W.aloadN d27_1 rfl rfl ?_
  refine W.aconstNull d27_2 ?_
  refine W.callI (as := [(vr p2), .null]) 0 [] d27_3 rfl (wq hw 183 rfl) (wq hw 184 rfl) (wq hw 5 rfl) (wq hw 185 rfl) (c50_init hw hs (hx1 := hx1) (hx2 := hx2) (hr0 := by omega) (l1 := l1) (hl_l1 := hl_l1) (mp2 := mp2) (mp3 := mp3)) (by decide) pd_Ljava_lang_AbstractStringBuilder_Ljava_lang_Void__V rfl rfl rfl rfl (by decide) (fun v D' h => ?_)
  rcases h with ⟨a1, h1, rfl, rfl⟩ | ⟨a2, h2, h3, hl3, rfl, rfl⟩
  ·
   have ih1 := t_eq h1
   show W _ _ _ _ _ _ _ _ _ _ _ _ 6 _ []
   exact W.return_ d27_6 rfl (by decide) (Or.inl ⟨a1, h1, rfl, rfl⟩)
  ·
   have ih2 := f_eq h2
   have ih3 := t_gt h3
   show W _ _ _ _ _ _ _ _ _ _ _ _ 6 _ []
   exact W.return_ d27_6 rfl (by decide) (Or.inr ⟨a2, h2, h3, hl3, rfl, rfl⟩)
theorem c48_toString {Z a0} (hw : HW a0 Z) (hs : SF Z) {p1 p2 : Addr} {x1 : Int32} (hx1 : 0 ≤ x1.toInt ∧ x1.toInt ≤ 15) {x2 : Int32} (hx2 : 0 ≤ x2.toInt ∧ x2.toInt ≤ 15) {l1 : List Int32} (hl_l1 : (l1.length : Int) = x2.toInt) (hr0 : x1.toInt ≤ x2.toInt) {w_p1 : Bool} {w_p2 : Bool} {F : List Ent} (mp1 : (p1, w_p1, oStringBuilder (vr p2) (vi 0) (vi x1)) ∈ F) (mp2 : (p2, w_p2, ar "[B" .byte (lm l1)) ∈ F) : Con Z EL y33 y33b 1 y33r (rmm 5 2 35 109) [(vr p1)] (F) (fun v D' => (∃ a1 a2 : Addr, Cd .eq x1 x2 ∧ v = some (vr a1) ∧ (a2, true, ar "[B" .byte (lm l1)) :: (a1, true, oString (vr a2) (vi 0)) :: F = D') ∨ (∃ a1 a3 : Addr, ¬ Cd .eq x1 x2 ∧ Cd .gt x2 x1 ∧ (((cpl l1 (0 : Int32).toInt.toNat (List.replicate x1.toInt.toNat (0 : Int32)) (0 : Int32).toInt.toNat x1.toInt.toNat)).length : Int) = x1.toInt ∧ v = some (vr a1) ∧ (a3, true, ar "[B" .byte (lm (cpl l1 (0 : Int32).toInt.toNat (List.replicate x1.toInt.toNat (0 : Int32)) (0 : Int32).toInt.toNat x1.toInt.toNat))) :: (a1, true, oString (vr a3) (vi 0)) :: F = D')) := by
  refine Con.of (ls := #[rv p1]) (by decide +kernel) rfl ?_
  refine W.new d26_0 (wq hw 178 rfl) (wq hw 6 rfl) (wq hw 5 rfl) (laString hw) (by decide) (by decide) (fun a1 => ?_)
  show W _ _ _ _ _ _ _ _ _ _ _ _ 3 _ [(vr a1)]
  refine W.dup d26_3 rfl ?_
  refine W.aloadN d26_4 rfl rfl ?_
  refine W.callI (as := [(vr p1)]) 1 [(vr a1)] d26_5 rfl (wq hw 179 rfl) (wq hw 180 rfl) (wq hw 5 rfl) (wq hw 182 rfl) (c49_init hw hs (hx1 := hx1) (hx2 := hx2) (hr0 := by omega) (l1 := l1) (hl_l1 := hl_l1) (mp2 := mp1) (mp3 := mp2)) (by decide) pd_Ljava_lang_StringBuilder__V rfl rfl rfl rfl (by decide) (fun v D' h => ?_)
  rcases h with ⟨a2, h1, rfl, rfl⟩ | ⟨a3, h2, h3, hl4, rfl, rfl⟩
  ·
   have ih1 := t_eq h1
   show W _ _ _ _ _ _ _ _ _ _ _ _ 8 _ [(vr a1)]
   exact W.areturn d26_8 rfl rfl rfl (by decide) (Or.inl ⟨a1, a2, h1, rfl, rfl⟩)
  ·
   have ih2 := f_eq h2
   have ih3 := t_gt h3
   show W _ _ _ _ _ _ _ _ _ _ _ _ 8 _ [(vr a1)]
   exact W.areturn d26_8 rfl rfl rfl (by decide) (Or.inr ⟨a1, a3, h2, h3, hl4, rfl, rfl⟩)
theorem c47_text {Z a0} (hw : HW a0 Z) (hs : SF Z) {p1 p6 p10 : Addr} {x1 : Int32} (hx1 : 0 ≤ x1.toInt ∧ x1.toInt ≤ 15) {x2 : Int32} (hx2 : 0 ≤ x2.toInt ∧ x2.toInt ≤ 15) {l1 : List Int32} (hl_l1 : (l1.length : Int) = x2.toInt) (hr0 : x1.toInt ≤ x2.toInt) {f_p1_0 f_p1_1 f_p1_2 f_p1_3 f_p1_4 f_p1_5 f_p1_6 : Value} {w_p1 : Bool} {w_p6 : Bool} {w_p10 : Bool} {F : List Ent} (mp1 : (p1, w_p1, oXmlElement f_p1_0 f_p1_1 f_p1_2 f_p1_3 f_p1_4 f_p1_5 f_p1_6 (vr p6)) ∈ F) (mp6 : (p6, w_p6, oStringBuilder (vr p10) (vi 0) (vi x1)) ∈ F) (mp10 : (p10, w_p10, ar "[B" .byte (lm l1)) ∈ F) : Con Z EL y5 y5b 1 y5r (rmm 6 2 35 121) [(vr p1)] (F) (fun v D' => (∃ a1 a2 : Addr, Cd .eq x1 x2 ∧ v = some (vr a1) ∧ (a2, true, ar "[B" .byte (lm l1)) :: (a1, true, oString (vr a2) (vi 0)) :: F = D') ∨ (∃ a3 a4 : Addr, ¬ Cd .eq x1 x2 ∧ Cd .gt x2 x1 ∧ (((cpl l1 (0 : Int32).toInt.toNat (List.replicate x1.toInt.toNat (0 : Int32)) (0 : Int32).toInt.toNat x1.toInt.toNat)).length : Int) = x1.toInt ∧ v = some (vr a3) ∧ (a4, true, ar "[B" .byte (lm (cpl l1 (0 : Int32).toInt.toNat (List.replicate x1.toInt.toNat (0 : Int32)) (0 : Int32).toInt.toNat x1.toInt.toNat))) :: (a3, true, oString (vr a4) (vi 0)) :: F = D')) := by
  refine Con.of (ls := #[rv p1]) (by decide +kernel) rfl ?_
  refine W.aloadN d6_0 rfl rfl ?_
  refine W.getf d6_1 (wq hw 62 rfl) Via.refl mp1 m7 ?_
  refine W.ifnonnullY 12 d6_4 (by decide) ?_
  refine W.aloadN d6_12 rfl rfl ?_
  refine W.getf d6_13 (wq hw 62 rfl) Via.refl mp1 m7 ?_
  refine W.callV (as := []) 0 [] d6_16 (wq hw 173 rfl) (wq hw 174 rfl) (wq hw 176 rfl) (wq hw 176 rfl) (wq hw 175 rfl) (wq hw 94 rfl) (wq hw 177 rfl) (Hp.exa mp6) (c48_toString hw hs (hx1 := hx1) (hx2 := hx2) (hr0 := by omega) (l1 := l1) (hl_l1 := hl_l1) (mp1 := mp6) (mp2 := mp10)) (by decide) pd__Ljava_lang_String_ rfl rfl rfl rfl (by decide) (fun v D' h => ?_)
  rcases h with ⟨a1, a2, h1, rfl, rfl⟩ | ⟨a3, a4, h2, h3, hl5, rfl, rfl⟩
  ·
   have ih1 := t_eq h1
   show W _ _ _ _ _ _ _ _ _ _ _ _ 19 _ [(vr a1)]
   exact W.areturn d6_19 rfl rfl rfl (by decide) (Or.inl ⟨a1, a2, h1, rfl, rfl⟩)
  ·
   have ih2 := f_eq h2
   have ih3 := t_gt h3
   show W _ _ _ _ _ _ _ _ _ _ _ _ 19 _ [(vr a3)]
   exact W.areturn d6_19 rfl rfl rfl (by decide) (Or.inr ⟨a3, a4, h2, h3, hl5, rfl, rfl⟩)
theorem c57_length {Z a0} (hw : HW a0 Z) (hs : SF Z) {p1 p2 : Addr} {x1 : Int32} (hx1 : 0 ≤ x1.toInt ∧ x1.toInt ≤ 15) {l1 : List Int32} (hl_l1 : (l1.length : Int) = x1.toInt) {w_p1 : Bool} {w_p2 : Bool} {ad_p2 : String} {F : List Ent} (mp1 : (p1, w_p1, oString (vr p2) (vi 0)) ∈ F) (mp2 : (p2, w_p2, ar ad_p2 .byte (lm l1)) ∈ F) : Con Z EL y8 y8b 1 y8r (rmm 1 0 0 13) [(vr p1)] (F) (fun v D' => (v = some (vi x1) ∧ F = D')) := by
  refine Con.of (ls := #[rv p1]) (by decide +kernel) rfl ?_
  refine W.aloadN d8_0 rfl rfl ?_
  refine W.getf d8_1 (wq hw 70 rfl) Via.refl mp1 m0 ?_
  refine W.alenS (l := l1) (z := x1) d8_4 mp2 hl_l1 ?_
  refine W.aloadN d8_5 rfl rfl ?_
  refine W.callV (as := []) 1 [(vi x1)] d8_6 (wq hw 76 rfl) (wq hw 77 rfl) (wq hw 79 rfl) (wq hw 79 rfl) (wq hw 78 rfl) (wq hw 5 rfl) (wq hw 80 rfl) (Hp.exa mp1) (c8_coder hw hs (mp1 := mp1)) (by decide) pd__B rfl rfl rfl rfl (by decide) (fun v D' h => ?_)
  obtain ⟨rfl, rfl⟩ := h
  show W _ _ _ _ _ _ _ _ _ _ _ _ 9 _ [(vi 0), (vi x1)]
  refine W.ishrK x1 d8_9 (z_shr0 x1) ?_
  exact W.ireturn d8_10 rfl (Or.inl rfl) rfl (by decide) ⟨rfl, rfl⟩
theorem c62_checkIndex {Z a0} (hw : HW a0 Z) (hs : SF Z) {x1 : Int32} (hx1 : 0 ≤ x1.toInt ∧ x1.toInt ≤ 7) {x2 : Int32} (hx2 : 0 ≤ x2.toInt ∧ x2.toInt ≤ 15) (hr0 : (0 : Int32).toInt ≤ x1.toInt) (hr1 : x1.toInt < x2.toInt) {F : List Ent} : Con Z EL y35 y35b 3 y35r (rmm 0 0 0 0) [(vi x1), (vi x2), (sfv Z)] (F) (fun v D' => (v = some (vi x1) ∧ F = D')) := by
  refine Con.of (ls := #[iv x1, iv x2, .val (sfv Z)]) (by decide +kernel) (hent_of (ld1 rfl (ld1 rfl (ld1 (XT.cat1 hs.2.2.1) ld0))) rfl) ?_
  refine W.iloadN d39_0 rfl ?_
  refine W.ifN d39_1 (n_lt (by have := q0; omega)) ?_
  refine W.iloadN d39_4 rfl ?_
  refine W.iloadN d39_5 rfl ?_
  refine W.icmpY 16 d39_6 (y_lt (by have := q0; omega)) (by decide) ?_
  refine W.iloadN d39_16 rfl ?_
  exact W.ireturn d39_17 rfl (Or.inl rfl) rfl (by decide) ⟨rfl, rfl⟩
theorem c61_checkIndex {Z a0} (hw : HW a0 Z) (hs : SF Z) {x1 : Int32} (hx1 : 0 ≤ x1.toInt ∧ x1.toInt ≤ 7) {x2 : Int32} (hx2 : 0 ≤ x2.toInt ∧ x2.toInt ≤ 15) (hr0 : (0 : Int32).toInt ≤ x1.toInt) (hr1 : x1.toInt < x2.toInt) {F : List Ent} : Con Z EL y36 y36b 2 y36r (rmm 1 0 0 14) [(vi x1), (vi x2)] (F) (fun v D' => (v = none ∧ F = D')) := by
  refine Con.of (ls := #[iv x1, iv x2]) (by decide +kernel) rfl ?_
  refine W.iloadN d38_0 rfl ?_
  refine W.iloadN d38_1 rfl ?_
  refine W.gets d38_2 (wq hw 226 rfl) Via.refl hs.2.2.2.1 ?_
  refine W.callS (as := [(vi x1), (vi x2), (sfv Z)]) 0 [] d38_5 (wq hw 227 rfl) (wq hw 228 rfl) (wq hw 121 rfl) (wq hw 229 rfl) (c62_checkIndex hw hs (hx1 := hx1) (hx2 := hx2) (hr0 := by have := q0; omega) (hr1 := by have := q0; omega)) (by decide) pd_IILjava_util_function_BiFunction__I rfl rfl rfl rfl (by decide) (fun v D' h => ?_)
  obtain ⟨rfl, rfl⟩ := h
  show W _ _ _ _ _ _ _ _ _ _ _ _ 8 _ [(vi x1)]
  refine W.popv d38_8 rfl ?_
  exact W.return_ d38_9 rfl (by decide) ⟨rfl, rfl⟩
theorem c60_charAt {Z a0} (hw : HW a0 Z) (hs : SF Z) {p1 : Addr} {x1 : Int32} (hx1 : 0 ≤ x1.toInt ∧ x1.toInt ≤ 7) {x2 : Int32} (hx2 : 0 ≤ x2.toInt ∧ x2.toInt ≤ 15) {l1 : List Int32} (hl_l1 : (l1.length : Int) = x2.toInt) (hr0 : x1.toInt < x2.toInt) {w_p1 : Bool} {ad_p1 : String} {F : List Ent} (mp1 : (p1, w_p1, ar ad_p1 .byte (lm l1)) ∈ F) : Con Z EL y37 y37b 2 y37r (rmm 2 0 0 27) [(vr p1), (vi x1)] (F) (fun v D' => (v = some (vi ((sel x1 l1) &&& (255 : Int32))) ∧ F = D')) := by
  refine Con.of (ls := #[rv p1, iv x1]) (by decide +kernel) rfl ?_
  refine W.iloadN d37_0 rfl ?_
  refine W.aloadN d37_1 rfl rfl ?_
  refine W.alenS (l := l1) (z := x2) d37_2 mp1 hl_l1 ?_
  refine W.callS (as := [(vi x1), (vi x2)]) 0 [] d37_3 (wq hw 223 rfl) (wq hw 224 rfl) (wq hw 5 rfl) (wq hw 225 rfl) (c61_checkIndex hw hs (hx1 := hx1) (hx2 := hx2) (hr0 := by have := q0; omega) (hr1 := by omega)) (by decide) pd_II_V rfl rfl rfl rfl (by decide) (fun v D' h => ?_)
  obtain ⟨rfl, rfl⟩ := h
  show W _ _ _ _ _ _ _ _ _ _ _ _ 6 _ []
  refine W.aloadN d37_6 rfl rfl ?_
  refine W.iloadN d37_7 rfl ?_
  refine W.baloadS (j' := x1) (l := l1) d37_8 mp1 rfl (by have := hl_l1; have := q0; omega) ?_
  refine W.sipush (255) d37_9 (by decide) ?_
  refine W.iand d37_12 ?_
  refine W.i2cK ((sel x1 l1) &&& (255 : Int32)) d37_13 (z_i2c (by have := rng32 (sel x1 l1); have := q255; have := am_255 (sel x1 l1); omega)) ?_
  exact W.ireturn d37_14 rfl (Or.inr (Or.inr (Or.inr (Or.inl rfl)))) (nw_char (by have := rng32 (sel x1 l1); have := q255; have := am_255 (sel x1 l1); omega)) (by decide) ⟨rfl, rfl⟩
theorem c59_charAt {Z a0} (hw : HW a0 Z) (hs : SF Z) {p1 p2 : Addr} {x1 : Int32} (hx1 : 0 ≤ x1.toInt ∧ x1.toInt ≤ 7) {x2 : Int32} (hx2 : 0 ≤ x2.toInt ∧ x2.toInt ≤ 15) {l1 : List Int32} (hl_l1 : (l1.length : Int) = x2.toInt) (hr0 : x1.toInt < x2.toInt) {w_p1 : Bool} {w_p2 : Bool} {ad_p2 : String} {F : List Ent} (mp1 : (p1, w_p1, oString (vr p2) (vi 0)) ∈ F) (mp2 : (p2, w_p2, ar ad_p2 .byte (lm l1)) ∈ F) : Con Z EL y38 y38b 2 y38r (rmm 3 0 0 40) [(vr p1), (vi x1)] (F) (fun v D' => (v = some (vi ((sel x1 l1) &&& (255 : Int32))) ∧ F = D')) := by
  refine Con.of (ls := #[rv p1, iv x1]) (by decide +kernel) rfl ?_
  refine W.aloadN d35_0 rfl rfl ?_
  refine W.callV (as := []) 0 [] d35_1 (wq hw 215 rfl) (wq hw 216 rfl) (wq hw 218 rfl) (wq hw 218 rfl) (wq hw 217 rfl) (wq hw 5 rfl) (wq hw 219 rfl) (Hp.exa mp1) (c39_isLatin1 hw hs (mp1 := mp1)) (by decide) pd__Z rfl rfl rfl rfl (by decide) (fun v D' h => ?_)
  obtain ⟨rfl, rfl⟩ := h
  show W _ _ _ _ _ _ _ _ _ _ _ _ 4 _ [(vi 1)]
  refine W.ifN d35_4 (n_eq (by decide)) ?_
  refine W.aloadN d35_7 rfl rfl ?_
  refine W.getf d35_8 (wq hw 70 rfl) Via.refl mp1 m0 ?_
  refine W.iloadN d35_11 rfl ?_
  refine W.callS (as := [(vr p2), (vi x1)]) 0 [] d35_12 (wq hw 220 rfl) (wq hw 221 rfl) (wq hw 145 rfl) (wq hw 222 rfl) (c60_charAt hw hs (hx1 := hx1) (hx2 := hx2) (hr0 := by omega) (l1 := l1) (hl_l1 := hl_l1) (mp1 := mp2)) (by decide) pd__BI_C rfl rfl rfl rfl (by decide) (fun v D' h => ?_)
  obtain ⟨rfl, rfl⟩ := h
  show W _ _ _ _ _ _ _ _ _ _ _ _ 15 _ [(vi ((sel x1 l1) &&& (255 : Int32)))]
  exact W.ireturn d35_15 rfl (Or.inr (Or.inr (Or.inr (Or.inl rfl)))) (nw_char (by have := rng32 (sel x1 l1); have := q255; have := am_255 (sel x1 l1); omega)) (by decide) ⟨rfl, rfl⟩
theorem c58_at {Z a0} (hw : HW a0 Z) (hs : SF Z) {p1 p2 p3 p4 : Addr} {x1 : Int32} (hx1 : 0 ≤ x1.toInt ∧ x1.toInt ≤ 127) {x2 : Int32} (hx2 : 0 ≤ x2.toInt ∧ x2.toInt ≤ 15) {x3 : Int32} (hx3 : 0 ≤ x3.toInt ∧ x3.toInt ≤ 7) {x4 : Int32} (hx4 : 0 ≤ x4.toInt ∧ x4.toInt ≤ 7) {x5 : Int32} (hx5 : 0 ≤ x5.toInt ∧ x5.toInt ≤ 7) {x6 : Int32} (hx6 : 0 ≤ x6.toInt ∧ x6.toInt ≤ 15) {l1 : List Int32} (hl_l1 : (l1.length : Int) = (4 : Int32).toInt) (hb_l1 : ∀ x ∈ l1, 0 ≤ x.toInt ∧ x.toInt ≤ 255) {l2 : List Int32} (hl_l2 : (l2.length : Int) = (4 : Int32).toInt) (hb_l2 : ∀ x ∈ l2, 0 ≤ x.toInt ∧ x.toInt ≤ 255) {l3 : List Int32} (hl_l3 : (l3.length : Int) = x6.toInt) (hr0 : x2.toInt ≤ x6.toInt) (hr1 : (x3 + x4).toInt ≤ (4 : Int32).toInt) (hr2 : (x5 + x2).toInt ≤ (x4 + (4 : Int32)).toInt) (hA : ∀ k : Int32, x1.toInt < x4.toInt → k.toInt = x3.toInt + x1.toInt → (sel x1 l3 &&& 255).toInt = (sel k l1).toInt) (hB : ∀ k : Int32, x4.toInt ≤ x1.toInt → x1.toInt < x2.toInt → k.toInt = x5.toInt + x1.toInt - x4.toInt → (sel x1 l3 &&& 255).toInt = (sel k l2).toInt) {w_p3 : Bool} {ad_p3 : String} {w_p1 : Bool} {w_p4 : Bool} {ad_p4 : String} {w_p2 : Bool} {ad_p2 : String} {F : List Ent} (mp3 : (p3, w_p3, ar ad_p3 .char (lm l2)) ∈ F) (mp1 : (p1, w_p1, oString (vr p4) (vi 0)) ∈ F) (mp4 : (p4, w_p4, ar ad_p4 .byte (lm l3)) ∈ F) (mp2 : (p2, w_p2, ar ad_p2 .char (lm l1)) ∈ F) : Con Z EL y9 y9b 9 y9r (rmm 4 0 0 53) [(vr p1), (vi x1), (vi x2), (vr p2), (vi x3), (vi x4), (vr p3), (vi x5)] (F) (fun v D' => (v = some (vi 1) ∧ F = D')) := by
  refine Con.of (ls := #[rv p1, iv x1, iv x2, rv p2, iv x3, iv x4, rv p3, iv x5, uu]) (by decide +kernel) rfl ?_
  refine W.iloadN d10_0 rfl ?_
  refine W.iloadN d10_1 rfl ?_
  refine W.icmp 7 d10_2 (by decide) (fun h1 => ?_) (fun h1 => ?_)
  ·
   have ih1 := t_lt h1
   refine W.iloadN d10_7 rfl ?_
   refine W.iload d10_8 rfl ?_
   refine W.icmp 22 d10_10 (by decide) (fun h2 => ?_) (fun h2 => ?_)
   ·
    have ih2 := t_ge h2
    refine W.aload 6 d10_22 rfl rfl ?_
    refine W.iload d10_24 rfl ?_
    refine W.iloadN d10_26 rfl ?_
    refine W.iadd d10_27 ?_
    refine W.iload d10_28 rfl ?_
    refine W.isub d10_30 ?_
    refine W.caloadS (j' := ((x5 + x1) - x4)) (l := l2) d10_31 mp3 rfl (by have := hl_l2; have := a_add x5 x1; have := a_sub (x5 + x1) x4; have := q4; have := q0; have := a_add x3 x4; have := a_add x5 x2; have := a_add x4 (4 : Int32); omega) ?_
    refine W.istore (ls' := #[rv p1, iv x1, iv x2, rv p2, iv x3, iv x4, rv p3, iv x5, iv (sel ((x5 + x1) - x4) l2)]) d10_32 rfl ?_
    refine W.aloadN d10_34 rfl rfl ?_
    refine W.iloadN d10_35 rfl ?_
    refine W.callV (as := [(vi x1)]) 0 [] d10_36 (wq hw 210 rfl) (wq hw 211 rfl) (wq hw 213 rfl) (wq hw 213 rfl) (wq hw 212 rfl) (wq hw 5 rfl) (wq hw 214 rfl) (Hp.exa mp1) (c59_charAt hw hs (hx1 := (by have := a_add x3 x4; have := q4; have := a_add x5 x2; have := a_add x4 (4 : Int32); omega)) (hx2 := hx6) (hr0 := by have := a_add x3 x4; have := q4; have := a_add x5 x2; have := a_add x4 (4 : Int32); omega) (l1 := l3) (hl_l1 := hl_l3) (mp1 := mp1) (mp2 := mp4)) (by decide) pd_I_C rfl rfl rfl rfl (by decide) (fun v D' h => ?_)
    obtain ⟨rfl, rfl⟩ := h
    show W _ _ _ _ _ _ _ _ _ _ _ _ 39 _ [(vi ((sel x1 l3) &&& (255 : Int32)))]
    refine W.iload d10_39 rfl ?_
    have hq : ((sel x1 l3) &&& (255 : Int32)).toInt = (sel ((x5 + x1) - x4) l2).toInt := hB _ (by have := a_add x5 x1; have := a_sub (x5 + x1) x4; have := a_add x3 x4; have := q4; have := a_add x5 x2; have := a_add x4 (4 : Int32); omega) (by have := a_add x5 x1; have := a_sub (x5 + x1) x4; have := a_add x3 x4; have := q4; have := a_add x5 x2; have := a_add x4 (4 : Int32); omega) (by have := a_add x5 x1; have := a_sub (x5 + x1) x4; have := a_add x3 x4; have := q4; have := a_add x5 x2; have := a_add x4 (4 : Int32); omega)
    refine W.icmpN d10_41 (n_ne (by have := rng32 (sel x1 l3); have := q255; have := am_255 (sel x1 l3); have := a_add x5 x1; have := a_sub (x5 + x1) x4; have := sel_b hb_l2 (by decide) ((x5 + x1) - x4); have := a_add x3 x4; have := q4; have := a_add x5 x2; have := a_add x4 (4 : Int32); omega)) ?_
    refine W.iconst (1) d10_44 (by decide) ?_
    refine W.goto 49 d10_45 (by decide) ?_
    exact W.ireturn d10_49 rfl (Or.inr (Or.inl rfl)) (nw_bool (by decide)) (by decide) ⟨rfl, rfl⟩
   ·
    have ih2 := f_ge h2
    refine W.aloadN d10_13 rfl rfl ?_
    refine W.iload d10_14 rfl ?_
    refine W.iloadN d10_16 rfl ?_
    refine W.iadd d10_17 ?_
    refine W.caloadS (j' := (x3 + x1)) (l := l1) d10_18 mp2 rfl (by have := hl_l1; have := a_add x3 x1; have := q4; have := q0; have := a_add x3 x4; have := a_add x5 x2; have := a_add x4 (4 : Int32); omega) ?_
    refine W.goto 32 d10_19 (by decide) ?_
    refine W.istore (ls' := #[rv p1, iv x1, iv x2, rv p2, iv x3, iv x4, rv p3, iv x5, iv (sel (x3 + x1) l1)]) d10_32 rfl ?_
    refine W.aloadN d10_34 rfl rfl ?_
    refine W.iloadN d10_35 rfl ?_
    refine W.callV (as := [(vi x1)]) 0 [] d10_36 (wq hw 210 rfl) (wq hw 211 rfl) (wq hw 213 rfl) (wq hw 213 rfl) (wq hw 212 rfl) (wq hw 5 rfl) (wq hw 214 rfl) (Hp.exa mp1) (c59_charAt hw hs (hx1 := (by have := a_add x3 x4; have := q4; have := a_add x5 x2; have := a_add x4 (4 : Int32); omega)) (hx2 := hx6) (hr0 := by have := a_add x3 x4; have := q4; have := a_add x5 x2; have := a_add x4 (4 : Int32); omega) (l1 := l3) (hl_l1 := hl_l3) (mp1 := mp1) (mp2 := mp4)) (by decide) pd_I_C rfl rfl rfl rfl (by decide) (fun v D' h => ?_)
    obtain ⟨rfl, rfl⟩ := h
    show W _ _ _ _ _ _ _ _ _ _ _ _ 39 _ [(vi ((sel x1 l3) &&& (255 : Int32)))]
    refine W.iload d10_39 rfl ?_
    have hq : ((sel x1 l3) &&& (255 : Int32)).toInt = (sel (x3 + x1) l1).toInt := hA _ (by have := a_add x3 x1; have := a_add x3 x4; have := q4; have := a_add x5 x2; have := a_add x4 (4 : Int32); omega) (by have := a_add x3 x1; have := a_add x3 x4; have := q4; have := a_add x5 x2; have := a_add x4 (4 : Int32); omega)
    refine W.icmpN d10_41 (n_ne (by have := rng32 (sel x1 l3); have := q255; have := am_255 (sel x1 l3); have := a_add x3 x1; have := sel_b hb_l1 (by decide) (x3 + x1); have := a_add x3 x4; have := q4; have := a_add x5 x2; have := a_add x4 (4 : Int32); omega)) ?_
    refine W.iconst (1) d10_44 (by decide) ?_
    refine W.goto 49 d10_45 (by decide) ?_
    exact W.ireturn d10_49 rfl (Or.inr (Or.inl rfl)) (nw_bool (by decide)) (by decide) ⟨rfl, rfl⟩
  ·
   have ih1 := f_lt h1
   refine W.iconst (1) d10_5 (by decide) ?_
   exact W.ireturn d10_6 rfl (Or.inr (Or.inl rfl)) (nw_bool (by decide)) (by decide) ⟨rfl, rfl⟩
theorem am_3 (x : Int32) : (x &&& (3 : Int32)).toInt = x.toInt % 4 := a_and x 3 2 4 (by decide) (by decide) (by decide)
set_option maxHeartbeats 4000000 in
theorem lawW {Z a0} (hw : HW a0 Z) (hs : SF Z) (z0 : Int32) (z1 : Int32) (z2 : Int32) (z3 : Int32) (z4 : Int32) : Con Z EL x code maxLocals ret room_1 [(vi z0), (vi z1), (vi z2), (vi z3), (vi z4)] ([]) (fun v _ => v = some (.int 1)) := by
  refine Con.of (ls := #[iv z0, iv z1, iv z2, iv z3, iv z4, uu, uu, uu, uu, uu, uu, uu, uu, uu, uu, uu, uu, uu, uu]) (by decide +kernel) rfl ?_
  show W Z EL _ "com/example/montaje/montaje/xml/XmlElementTextPinLaw" "law" _ _ _ _ _ _ _ _ _ _
  have K12 : ∀ (a2 : Addr) (g3 : Int32) (g4 : Int32) (g5 : Int32) (g6 : Int32) (a7 : Addr) (g8 : Int32) (g9 : Int32) (g10 : Int32) (g11 : Int32), 0 ≤ g3.toInt ∧ g3.toInt ≤ 255 → 0 ≤ g4.toInt ∧ g4.toInt ≤ 255 → 0 ≤ g5.toInt ∧ g5.toInt ≤ 255 → 0 ≤ g6.toInt ∧ g6.toInt ≤ 255 → 0 ≤ g8.toInt ∧ g8.toInt ≤ 255 → 0 ≤ g9.toInt ∧ g9.toInt ≤ 255 → 0 ≤ g10.toInt ∧ g10.toInt ≤ 255 → 0 ≤ g11.toInt ∧ g11.toInt ≤ 255 → W Z EL room_1 "com/example/montaje/montaje/xml/XmlElementTextPinLaw" "law" code maxLocals ret (fun v _ => v = some (.int 1)) ((a2, true, ar "[C" .char [(vi g3), (vi g4), (vi g5), (vi g6)]) :: (a7, true, ar "[C" .char [(vi g8), (vi g9), (vi g10), (vi g11)]) :: []) 2 8 108 #[iv z0, iv z1, iv z2, iv z3, iv z4, rv a2, rv a7, uu, uu, uu, uu, uu, uu, uu, uu, uu, uu, uu, uu] [] := by
   intro a2 g3 g4 g5 g6 a7 g8 g9 g10 g11 hg3 hg4 hg5 hg6 hg8 hg9 hg10 hg11 
   refine W.iloadN at_108 rfl ?_
   refine W.iconst (3) at_109 (by decide) ?_
   refine W.iand at_110 ?_
   refine W.istore (ls' := #[iv z0, iv z1, iv z2, iv z3, iv z4, rv a2, rv a7, iv (z2 &&& (3 : Int32)), uu, uu, uu, uu, uu, uu, uu, uu, uu, uu, uu]) at_111 rfl ?_
   have K14 : ∀ (g13 : Int32), 0 ≤ g13.toInt ∧ g13.toInt ≤ 3 → W Z EL room_1 "com/example/montaje/montaje/xml/XmlElementTextPinLaw" "law" code maxLocals ret (fun v _ => v = some (.int 1)) ((a2, true, ar "[C" .char [(vi g3), (vi g4), (vi g5), (vi g6)]) :: (a7, true, ar "[C" .char [(vi g8), (vi g9), (vi g10), (vi g11)]) :: []) 2 8 113 #[iv z0, iv z1, iv z2, iv z3, iv z4, rv a2, rv a7, iv g13, uu, uu, uu, uu, uu, uu, uu, uu, uu, uu, uu] [] := by
    intro g13 hg13
    refine W.iloadN at_113 rfl ?_
    refine W.iconst (2) at_114 (by decide) ?_
    refine W.iushr at_115 ?_
    refine W.bipush (7) at_116 (by decide) ?_
    refine W.iand at_118 ?_
    refine W.iconst (5) at_119 (by decide) ?_
    refine W.iload at_120 rfl ?_
    refine W.isub at_122 ?_
    refine W.irem at_123 (fun e => by have := i_eq e; have := q5; have := a_sub (5 : Int32) g13; have := q0; omega) ?_
    have ih1 := ((c_iremV ((XT.ushr z2 (2 : Int32)) &&& (7 : Int32)) ((5 : Int32) - g13)).1 (by have := rng32 z2; have := q2; have := aushr_2 z2; have := q7; have := am_7 (XT.ushr z2 (2 : Int32)); omega) (by have := q5; have := a_sub (5 : Int32) g13; omega)).2.1
    refine W.istore (ls' := #[iv z0, iv z1, iv z2, iv z3, iv z4, rv a2, rv a7, iv g13, iv (((XT.ushr z2 (2 : Int32)) &&& (7 : Int32)) % ((5 : Int32) - g13)), uu, uu, uu, uu, uu, uu, uu, uu, uu, uu]) at_124 rfl ?_
    refine W.iloadN at_126 rfl ?_
    refine W.iconst (3) at_127 (by decide) ?_
    refine W.iand at_128 ?_
    refine W.istore (ls' := #[iv z0, iv z1, iv z2, iv z3, iv z4, rv a2, rv a7, iv g13, iv (((XT.ushr z2 (2 : Int32)) &&& (7 : Int32)) % ((5 : Int32) - g13)), iv (z3 &&& (3 : Int32)), uu, uu, uu, uu, uu, uu, uu, uu, uu]) at_129 rfl ?_
    have K16 : ∀ (g15 : Int32), 0 ≤ g15.toInt ∧ g15.toInt ≤ 3 → W Z EL room_1 "com/example/montaje/montaje/xml/XmlElementTextPinLaw" "law" code maxLocals ret (fun v _ => v = some (.int 1)) ((a2, true, ar "[C" .char [(vi g3), (vi g4), (vi g5), (vi g6)]) :: (a7, true, ar "[C" .char [(vi g8), (vi g9), (vi g10), (vi g11)]) :: []) 2 8 131 #[iv z0, iv z1, iv z2, iv z3, iv z4, rv a2, rv a7, iv g13, iv (((XT.ushr z2 (2 : Int32)) &&& (7 : Int32)) % ((5 : Int32) - g13)), iv g15, uu, uu, uu, uu, uu, uu, uu, uu, uu] [] := by
     intro g15 hg15
     refine W.iloadN at_131 rfl ?_
     refine W.iconst (2) at_132 (by decide) ?_
     refine W.iushr at_133 ?_
     refine W.bipush (7) at_134 (by decide) ?_
     refine W.iand at_136 ?_
     refine W.iconst (5) at_137 (by decide) ?_
     refine W.iload at_138 rfl ?_
     refine W.isub at_140 ?_
     refine W.irem at_141 (fun e => by have := i_eq e; have := q5; have := a_sub (5 : Int32) g15; have := q0; omega) ?_
     have ih2 := ((c_iremV ((XT.ushr z3 (2 : Int32)) &&& (7 : Int32)) ((5 : Int32) - g15)).1 (by have := rng32 z3; have := q2; have := aushr_2 z3; have := q7; have := am_7 (XT.ushr z3 (2 : Int32)); omega) (by have := q5; have := a_sub (5 : Int32) g15; omega)).2.1
     refine W.istore (ls' := #[iv z0, iv z1, iv z2, iv z3, iv z4, rv a2, rv a7, iv g13, iv (((XT.ushr z2 (2 : Int32)) &&& (7 : Int32)) % ((5 : Int32) - g13)), iv g15, iv (((XT.ushr z3 (2 : Int32)) &&& (7 : Int32)) % ((5 : Int32) - g15)), uu, uu, uu, uu, uu, uu, uu, uu]) at_142 rfl ?_
     have K19 : ∀ (g18 : Int32), 0 ≤ g18.toInt ∧ g18.toInt ≤ 1 → W Z EL room_1 "com/example/montaje/montaje/xml/XmlElementTextPinLaw" "law" code maxLocals ret (fun v _ => v = some (.int 1)) ((a2, true, ar "[C" .char [(vi g3), (vi g4), (vi g5), (vi g6)]) :: (a7, true, ar "[C" .char [(vi g8), (vi g9), (vi g10), (vi g11)]) :: []) 2 8 158 #[iv z0, iv z1, iv z2, iv z3, iv z4, rv a2, rv a7, iv g13, iv (((XT.ushr z2 (2 : Int32)) &&& (7 : Int32)) % ((5 : Int32) - g13)), iv g15, iv (((XT.ushr z3 (2 : Int32)) &&& (7 : Int32)) % ((5 : Int32) - g15)), iv g18, uu, uu, uu, uu, uu, uu, uu] [] := by
      intro g18 hg18 
      have K24 : ∀ (g21 : Int32) (g22 : Int32) (g23 : Int32), 0 ≤ g21.toInt ∧ g21.toInt ≤ 4 → 0 ≤ g22.toInt ∧ g22.toInt ≤ 4 → 0 ≤ g23.toInt ∧ g23.toInt ≤ 1 → ((g13 + g21).toInt ≤ 4) → ((g15 + g22).toInt ≤ 4) → W Z EL room_1 "com/example/montaje/montaje/xml/XmlElementTextPinLaw" "law" code maxLocals ret (fun v _ => v = some (.int 1)) ((a2, true, ar "[C" .char [(vi g3), (vi g4), (vi g5), (vi g6)]) :: (a7, true, ar "[C" .char [(vi g8), (vi g9), (vi g10), (vi g11)]) :: []) 2 8 172 #[iv z0, iv z1, iv z2, iv z3, iv z4, rv a2, rv a7, iv g13, iv g21, iv g15, iv g22, iv g18, iv g23, uu, uu, uu, uu, uu, uu] [] := by
       intro g21 g22 g23 hg21 hg22 hg23 hS1 hS2
       refine W.new at_172 (wq hw 1 rfl) (wq hw 2 rfl) (wq hw 3 rfl) (laXmlElement hw) (by decide) (by decide) (fun a25 => ?_)
       show W _ _ _ _ _ _ _ _ _ _ _ _ 175 _ [(vr a25)]
       refine W.dup at_175 rfl ?_
       refine W.ldcT 0 (vs := []) rfl at_176 (wq hw 4 rfl) (wS hw) m1 tx_ (by decide) (by decide) (by decide) (fun a26 a27 => ?_)
       show W _ _ _ _ _ _ _ _ _ _ _ _ 178 _ [(vr a26), (vr a25), (vr a25)]
       refine W.ldcT 4 (vs := [(vi 101)]) rfl at_178 (wq hw 12 rfl) (wS hw) m2 tx_65 (by decide) (by decide) (by decide) (fun a28 a29 => ?_)
       show W _ _ _ _ _ _ _ _ _ _ _ _ 180 _ [(vr a28), (vr a26), (vr a25), (vr a25)]
       refine W.ldcT 4 (vs := [(vi 101)]) rfl at_180 (wq hw 12 rfl) (wS hw) m2 tx_65 (by decide) (by decide) (by decide) (fun a30 a31 => ?_)
       show W _ _ _ _ _ _ _ _ _ _ _ _ 182 _ [(vr a30), (vr a28), (vr a26), (vr a25), (vr a25)]
       refine W.iconst (1) at_182 (by decide) ?_
       refine W.aconstNull at_183 ?_
       refine W.aconstNull at_184 ?_
       refine W.front 6 (D' := (a25, true, oXmlElement .null .null .null .null (vi 0) .null .null .null) :: (a30, false, oString (vr a31) (vi 0)) :: (a31, false, ar "" .byte [(vi 101)]) :: (a28, false, oString (vr a29) (vi 0)) :: (a29, false, ar "" .byte [(vi 101)]) :: (a26, false, oString (vr a27) (vi 0)) :: (a27, false, ar "" .byte []) :: (a2, true, ar "[C" .char [(vi g3), (vi g4), (vi g5), (vi g6)]) :: (a7, true, ar "[C" .char [(vi g8), (vi g9), (vi g10), (vi g11)]) :: []) rfl rfl ?_
       refine W.callI (as := [(vr a26), (vr a28), (vr a30), (vi 1), .null, .null]) 1 [(vr a25)] at_185 rfl (wq hw 13 rfl) (wq hw 14 rfl) (wq hw 3 rfl) (wq hw 15 rfl) (c1_init hw hs) (by decide) pd_Ljava_lang_String_Ljava_lang_String_Ljava_lang_String_ILjava_util_Map_Ljava_util_List__V rfl rfl rfl rfl (by decide) (fun v D' h => ?_)
       obtain ⟨a32, rfl, rfl⟩ := h
       show W _ _ _ _ _ _ _ _ _ _ _ _ 188 _ [(vr a25)]
       refine W.astore (ls' := #[iv z0, iv z1, iv z2, iv z3, iv z4, rv a2, rv a7, iv g13, iv g21, iv g15, iv g22, iv g18, iv g23, rv a25, uu, uu, uu, uu, uu]) at_188 rfl rfl ?_
       refine W.aload 13 at_190 rfl rfl ?_
       refine W.callV (as := []) 0 [] at_192 (wq hw 57 rfl) (wq hw 58 rfl) (wq hw 60 rfl) (wq hw 60 rfl) (wq hw 59 rfl) (wq hw 3 rfl) (wq hw 61 rfl) (Hp.exa m1) (c5_text hw hs (mp1 := m1)) (by decide) pd__Ljava_lang_String_ rfl rfl rfl rfl (by decide) (fun v D' h => ?_)
       obtain ⟨a33, a34, rfl, rfl⟩ := h
       show W _ _ _ _ _ _ _ _ _ _ _ _ 195 _ [(vr a33)]
       refine W.astore (ls' := #[iv z0, iv z1, iv z2, iv z3, iv z4, rv a2, rv a7, iv g13, iv g21, iv g15, iv g22, iv g18, iv g23, rv a25, rv a33, uu, uu, uu, uu]) at_195 rfl rfl ?_
       refine W.aload 14 at_197 rfl rfl ?_
       refine W.ifnullN at_199 ?_
       refine W.aload 14 at_202 rfl rfl ?_
       refine W.callV (as := []) 0 [] at_204 (wq hw 65 rfl) (wq hw 66 rfl) (wq hw 68 rfl) (wq hw 68 rfl) (wq hw 67 rfl) (wq hw 5 rfl) (wq hw 69 rfl) (Hp.exa m0) (c6_isEmpty hw hs (mp1 := m0) (mp2 := m1)) (by decide) pd__Z rfl rfl rfl rfl (by decide) (fun v D' h => ?_)
       obtain ⟨rfl, rfl⟩ := h
       show W _ _ _ _ _ _ _ _ _ _ _ _ 207 _ [(vi 1)]
       refine W.ifY 212 at_207 (y_ne (by decide)) (by decide) ?_
       refine W.iconst (0) at_212 (by decide) ?_
       refine W.istore (ls' := #[iv z0, iv z1, iv z2, iv z3, iv z4, rv a2, rv a7, iv g13, iv g21, iv g15, iv g22, iv g18, iv g23, rv a25, rv a33, iv 0, uu, uu, uu]) at_213 rfl ?_
       refine W.iconst (0) at_215 (by decide) ?_
       refine W.istore (ls' := #[iv z0, iv z1, iv z2, iv z3, iv z4, rv a2, rv a7, iv g13, iv g21, iv g15, iv g22, iv g18, iv g23, rv a25, rv a33, iv 0, iv 0, uu, uu]) at_216 rfl ?_
       refine W.iload at_218 rfl ?_
       refine W.if 238 at_220 (by decide) (fun h3 => ?_) (fun h3 => ?_)
       ·
        have ih3 := t_eq h3
        refine W.iload at_238 rfl ?_
        refine W.if 258 at_240 (by decide) (fun h4 => ?_) (fun h4 => ?_)
        ·
         have ih4 := t_eq h4
         refine W.aload 13 at_258 rfl rfl ?_
         refine W.callV (as := []) 0 [] at_260 (wq hw 57 rfl) (wq hw 58 rfl) (wq hw 60 rfl) (wq hw 60 rfl) (wq hw 59 rfl) (wq hw 3 rfl) (wq hw 61 rfl) (Hp.exa m3) (c5_text hw hs (mp1 := m3)) (by decide) pd__Ljava_lang_String_ rfl rfl rfl rfl (by decide) (fun v D' h => ?_)
         obtain ⟨a35, a36, rfl, rfl⟩ := h
         show W _ _ _ _ _ _ _ _ _ _ _ _ 263 _ [(vr a35)]
         refine W.astore (ls' := #[iv z0, iv z1, iv z2, iv z3, iv z4, rv a2, rv a7, iv g13, iv g21, iv g15, iv g22, iv g18, iv g23, rv a25, rv a33, iv 0, iv 0, rv a35, uu]) at_263 rfl rfl ?_
         refine W.iload at_265 rfl ?_
         refine W.iload at_267 rfl ?_
         refine W.iaddK (0 : Int32) at_269 (by decide) ?_
         refine W.istore (ls' := #[iv z0, iv z1, iv z2, iv z3, iv z4, rv a2, rv a7, iv g13, iv g21, iv g15, iv g22, iv g18, iv g23, rv a25, rv a33, iv 0, iv 0, rv a35, iv 0]) at_270 rfl ?_
         refine W.aload 17 at_272 rfl rfl ?_
         refine W.ifnullN at_274 ?_
         refine W.aload 17 at_277 rfl rfl ?_
         refine W.callV (as := []) 0 [] at_279 (wq hw 71 rfl) (wq hw 72 rfl) (wq hw 74 rfl) (wq hw 74 rfl) (wq hw 73 rfl) (wq hw 5 rfl) (wq hw 75 rfl) (Hp.exa m0) (c7_length hw hs (mp1 := m0) (mp2 := m1)) (by decide) pd__I rfl rfl rfl rfl (by decide) (fun v D' h => ?_)
         obtain ⟨rfl, rfl⟩ := h
         show W _ _ _ _ _ _ _ _ _ _ _ _ 282 _ [(vi 0)]
         refine W.iload at_282 rfl ?_
         refine W.icmpY 289 at_284 (y_eq (by decide)) (by decide) ?_
         refine W.aload 17 at_289 rfl rfl ?_
         refine W.iconst (0) at_291 (by decide) ?_
         refine W.iload at_292 rfl ?_
         refine W.aload 5 at_294 rfl rfl ?_
         refine W.iload at_296 rfl ?_
         refine W.iload at_298 rfl ?_
         refine W.aload 6 at_300 rfl rfl ?_
         refine W.iload at_302 rfl ?_
         refine W.callS (as := [(vr a35), (vi 0), (vi 0), (vr a2), (vi g13), (vi 0), (vr a7), (vi g15)]) 0 [] at_304 (wq hw 83 rfl) (wq hw 84 rfl) (wq hw 85 rfl) (wq hw 86 rfl) (c9_at hw hs (hx1 := (by decide)) (hx2 := (by decide)) (hx3 := (by have := a_add g13 g21; have := q4; omega)) (hx4 := (by decide)) (hx5 := (by have := a_add g15 g22; have := q4; omega)) (hr0 := by have := q0; omega)) (by decide) pd_Ljava_lang_String_II_CII_CI_Z rfl rfl rfl rfl (by decide) (fun v D' h => ?_)
         obtain ⟨rfl, rfl⟩ := h
         show W _ _ _ _ _ _ _ _ _ _ _ _ 307 _ [(vi 1)]
         refine W.ifN at_307 (n_eq (by decide)) ?_
         refine W.aload 17 at_310 rfl rfl ?_
         refine W.iconst (1) at_312 (by decide) ?_
         refine W.iload at_313 rfl ?_
         refine W.aload 5 at_315 rfl rfl ?_
         refine W.iload at_317 rfl ?_
         refine W.iload at_319 rfl ?_
         refine W.aload 6 at_321 rfl rfl ?_
         refine W.iload at_323 rfl ?_
         refine W.callS (as := [(vr a35), (vi 1), (vi 0), (vr a2), (vi g13), (vi 0), (vr a7), (vi g15)]) 0 [] at_325 (wq hw 83 rfl) (wq hw 84 rfl) (wq hw 85 rfl) (wq hw 86 rfl) (c9_at hw hs (hx1 := (by decide)) (hx2 := (by decide)) (hx3 := (by have := a_add g13 g21; have := q4; omega)) (hx4 := (by decide)) (hx5 := (by have := a_add g15 g22; have := q4; omega)) (hr0 := by have := q0; have := q1; omega)) (by decide) pd_Ljava_lang_String_II_CII_CI_Z rfl rfl rfl rfl (by decide) (fun v D' h => ?_)
         obtain ⟨rfl, rfl⟩ := h
         show W _ _ _ _ _ _ _ _ _ _ _ _ 328 _ [(vi 1)]
         refine W.ifN at_328 (n_eq (by decide)) ?_
         refine W.aload 17 at_331 rfl rfl ?_
         refine W.iconst (2) at_333 (by decide) ?_
         refine W.iload at_334 rfl ?_
         refine W.aload 5 at_336 rfl rfl ?_
         refine W.iload at_338 rfl ?_
         refine W.iload at_340 rfl ?_
         refine W.aload 6 at_342 rfl rfl ?_
         refine W.iload at_344 rfl ?_
         refine W.callS (as := [(vr a35), (vi 2), (vi 0), (vr a2), (vi g13), (vi 0), (vr a7), (vi g15)]) 0 [] at_346 (wq hw 83 rfl) (wq hw 84 rfl) (wq hw 85 rfl) (wq hw 86 rfl) (c9_at hw hs (hx1 := (by decide)) (hx2 := (by decide)) (hx3 := (by have := a_add g13 g21; have := q4; omega)) (hx4 := (by decide)) (hx5 := (by have := a_add g15 g22; have := q4; omega)) (hr0 := by have := q0; have := q2; omega)) (by decide) pd_Ljava_lang_String_II_CII_CI_Z rfl rfl rfl rfl (by decide) (fun v D' h => ?_)
         obtain ⟨rfl, rfl⟩ := h
         show W _ _ _ _ _ _ _ _ _ _ _ _ 349 _ [(vi 1)]
         refine W.ifN at_349 (n_eq (by decide)) ?_
         refine W.aload 17 at_352 rfl rfl ?_
         refine W.iconst (3) at_354 (by decide) ?_
         refine W.iload at_355 rfl ?_
         refine W.aload 5 at_357 rfl rfl ?_
         refine W.iload at_359 rfl ?_
         refine W.iload at_361 rfl ?_
         refine W.aload 6 at_363 rfl rfl ?_
         refine W.iload at_365 rfl ?_
         refine W.callS (as := [(vr a35), (vi 3), (vi 0), (vr a2), (vi g13), (vi 0), (vr a7), (vi g15)]) 0 [] at_367 (wq hw 83 rfl) (wq hw 84 rfl) (wq hw 85 rfl) (wq hw 86 rfl) (c9_at hw hs (hx1 := (by decide)) (hx2 := (by decide)) (hx3 := (by have := a_add g13 g21; have := q4; omega)) (hx4 := (by decide)) (hx5 := (by have := a_add g15 g22; have := q4; omega)) (hr0 := by have := q0; have := q3; omega)) (by decide) pd_Ljava_lang_String_II_CII_CI_Z rfl rfl rfl rfl (by decide) (fun v D' h => ?_)
         obtain ⟨rfl, rfl⟩ := h
         show W _ _ _ _ _ _ _ _ _ _ _ _ 370 _ [(vi 1)]
         refine W.ifN at_370 (n_eq (by decide)) ?_
         refine W.aload 17 at_373 rfl rfl ?_
         refine W.iconst (4) at_375 (by decide) ?_
         refine W.iload at_376 rfl ?_
         refine W.aload 5 at_378 rfl rfl ?_
         refine W.iload at_380 rfl ?_
         refine W.iload at_382 rfl ?_
         refine W.aload 6 at_384 rfl rfl ?_
         refine W.iload at_386 rfl ?_
         refine W.callS (as := [(vr a35), (vi 4), (vi 0), (vr a2), (vi g13), (vi 0), (vr a7), (vi g15)]) 0 [] at_388 (wq hw 83 rfl) (wq hw 84 rfl) (wq hw 85 rfl) (wq hw 86 rfl) (c9_at hw hs (hx1 := (by decide)) (hx2 := (by decide)) (hx3 := (by have := a_add g13 g21; have := q4; omega)) (hx4 := (by decide)) (hx5 := (by have := a_add g15 g22; have := q4; omega)) (hr0 := by have := q0; have := q4; omega)) (by decide) pd_Ljava_lang_String_II_CII_CI_Z rfl rfl rfl rfl (by decide) (fun v D' h => ?_)
         obtain ⟨rfl, rfl⟩ := h
         show W _ _ _ _ _ _ _ _ _ _ _ _ 391 _ [(vi 1)]
         refine W.ifN at_391 (n_eq (by decide)) ?_
         refine W.aload 17 at_394 rfl rfl ?_
         refine W.iconst (5) at_396 (by decide) ?_
         refine W.iload at_397 rfl ?_
         refine W.aload 5 at_399 rfl rfl ?_
         refine W.iload at_401 rfl ?_
         refine W.iload at_403 rfl ?_
         refine W.aload 6 at_405 rfl rfl ?_
         refine W.iload at_407 rfl ?_
         refine W.callS (as := [(vr a35), (vi 5), (vi 0), (vr a2), (vi g13), (vi 0), (vr a7), (vi g15)]) 0 [] at_409 (wq hw 83 rfl) (wq hw 84 rfl) (wq hw 85 rfl) (wq hw 86 rfl) (c9_at hw hs (hx1 := (by decide)) (hx2 := (by decide)) (hx3 := (by have := a_add g13 g21; have := q4; omega)) (hx4 := (by decide)) (hx5 := (by have := a_add g15 g22; have := q4; omega)) (hr0 := by have := q0; have := q5; omega)) (by decide) pd_Ljava_lang_String_II_CII_CI_Z rfl rfl rfl rfl (by decide) (fun v D' h => ?_)
         obtain ⟨rfl, rfl⟩ := h
         show W _ _ _ _ _ _ _ _ _ _ _ _ 412 _ [(vi 1)]
         refine W.ifN at_412 (n_eq (by decide)) ?_
         refine W.aload 17 at_415 rfl rfl ?_
         refine W.bipush (6) at_417 (by decide) ?_
         refine W.iload at_419 rfl ?_
         refine W.aload 5 at_421 rfl rfl ?_
         refine W.iload at_423 rfl ?_
         refine W.iload at_425 rfl ?_
         refine W.aload 6 at_427 rfl rfl ?_
         refine W.iload at_429 rfl ?_
         refine W.callS (as := [(vr a35), (vi 6), (vi 0), (vr a2), (vi g13), (vi 0), (vr a7), (vi g15)]) 0 [] at_431 (wq hw 83 rfl) (wq hw 84 rfl) (wq hw 85 rfl) (wq hw 86 rfl) (c9_at hw hs (hx1 := (by decide)) (hx2 := (by decide)) (hx3 := (by have := a_add g13 g21; have := q4; omega)) (hx4 := (by decide)) (hx5 := (by have := a_add g15 g22; have := q4; omega)) (hr0 := by have := q0; have := q6; omega)) (by decide) pd_Ljava_lang_String_II_CII_CI_Z rfl rfl rfl rfl (by decide) (fun v D' h => ?_)
         obtain ⟨rfl, rfl⟩ := h
         show W _ _ _ _ _ _ _ _ _ _ _ _ 434 _ [(vi 1)]
         refine W.ifN at_434 (n_eq (by decide)) ?_
         refine W.aload 17 at_437 rfl rfl ?_
         refine W.bipush (7) at_439 (by decide) ?_
         refine W.iload at_441 rfl ?_
         refine W.aload 5 at_443 rfl rfl ?_
         refine W.iload at_445 rfl ?_
         refine W.iload at_447 rfl ?_
         refine W.aload 6 at_449 rfl rfl ?_
         refine W.iload at_451 rfl ?_
         refine W.callS (as := [(vr a35), (vi 7), (vi 0), (vr a2), (vi g13), (vi 0), (vr a7), (vi g15)]) 0 [] at_453 (wq hw 83 rfl) (wq hw 84 rfl) (wq hw 85 rfl) (wq hw 86 rfl) (c9_at hw hs (hx1 := (by decide)) (hx2 := (by decide)) (hx3 := (by have := a_add g13 g21; have := q4; omega)) (hx4 := (by decide)) (hx5 := (by have := a_add g15 g22; have := q4; omega)) (hr0 := by have := q0; have := q7; omega)) (by decide) pd_Ljava_lang_String_II_CII_CI_Z rfl rfl rfl rfl (by decide) (fun v D' h => ?_)
         obtain ⟨rfl, rfl⟩ := h
         show W _ _ _ _ _ _ _ _ _ _ _ _ 456 _ [(vi 1)]
         refine W.ifN at_456 (n_eq (by decide)) ?_
         refine W.iconst (1) at_459 (by decide) ?_
         refine W.goto 464 at_460 (by decide) ?_
         exact W.ireturn at_464 rfl (Or.inr (Or.inl rfl)) (nw_bool (by decide)) (by decide) rfl
        ·
         have ih4 := f_eq h4
         have K44 : ∀ (a38 : Addr) (a39 : Addr) (gl40 : List Int32) (a41 : Addr) (a42 : Addr) (gl43 : List Int32), (gl40.length : Int) = g22.toInt → (gl43.length : Int) = g22.toInt → (g22.toInt = ((0 : Int32) + g22).toInt) → ((g15 + g22).toInt ≤ 4) → (∀ i k : Int32, 0 ≤ i.toInt → i.toInt < (0 : Int32).toInt → k.toInt = g13.toInt + i.toInt → (sel i gl43 &&& 255).toInt = (sel k [g3, g4, g5, g6]).toInt) → (∀ i k : Int32, (0 : Int32).toInt ≤ i.toInt → i.toInt < ((0 : Int32) + g22).toInt → k.toInt = g15.toInt + i.toInt - (0 : Int32).toInt → (sel i gl43 &&& 255).toInt = (sel k [g8, g9, g10, g11]).toInt) → W Z EL room_1 "com/example/montaje/montaje/xml/XmlElementTextPinLaw" "law" code maxLocals ret (fun v _ => v = some (.int 1)) ((a33, false, oString (vr a34) (vi 0)) :: (a34, false, ar "" .byte []) :: (a32, true, oArrayList (vi 0) (vr (og1 Z))) :: (a25, true, oXmlElement (vr a32) (vr a26) (vr a28) (vr a30) (vi 1) .null .null (vr a38)) :: (a30, false, oString (vr a31) (vi 0)) :: (a31, false, ar "" .byte [(vi 101)]) :: (a28, false, oString (vr a29) (vi 0)) :: (a29, false, ar "" .byte [(vi 101)]) :: (a26, false, oString (vr a27) (vi 0)) :: (a27, false, ar "" .byte []) :: (a2, true, ar "[C" .char [(vi g3), (vi g4), (vi g5), (vi g6)]) :: (a7, true, ar "[C" .char [(vi g8), (vi g9), (vi g10), (vi g11)]) :: (a38, true, oStringBuilder (vr a39) (vi 0) (vi ((0 : Int32) + g22))) :: (a39, true, ar "[B" .byte (lm gl40)) :: (a41, true, oString (vr a42) (vi 0)) :: (a42, true, ar "[B" .byte (lm gl43)) :: []) 17 144 265 #[iv z0, iv z1, iv z2, iv z3, iv z4, rv a2, rv a7, iv g13, iv g21, iv g15, iv g22, iv g18, iv g23, rv a25, rv a33, iv 0, iv g22, rv a41, uu] [] := by
          intro a38 a39 gl40 a41 a42 gl43 hgl40 hgl43 hP1 hP2 hP3 hP4
          refine W.iload at_265 rfl ?_
          refine W.iload at_267 rfl ?_
          refine W.iaddK g22 at_269 (z_0add g22) ?_
          refine W.istore (ls' := #[iv z0, iv z1, iv z2, iv z3, iv z4, rv a2, rv a7, iv g13, iv g21, iv g15, iv g22, iv g18, iv g23, rv a25, rv a33, iv 0, iv g22, rv a41, iv g22]) at_270 rfl ?_
          refine W.aload 17 at_272 rfl rfl ?_
          refine W.ifnullN at_274 ?_
          refine W.aload 17 at_277 rfl rfl ?_
          refine W.callV (as := []) 0 [] at_279 (wq hw 71 rfl) (wq hw 72 rfl) (wq hw 74 rfl) (wq hw 74 rfl) (wq hw 73 rfl) (wq hw 5 rfl) (wq hw 75 rfl) (Hp.exa m14) (c36_length hw hs (hx1 := (by have := a_add g15 g22; have := q4; have := q0; have := a_add (0 : Int32) g22; omega)) (l1 := gl43) (hl_l1 := hgl43) (mp1 := m14) (mp2 := m15)) (by decide) pd__I rfl rfl rfl rfl (by decide) (fun v D' h => ?_)
          obtain ⟨rfl, rfl⟩ := h
          show W _ _ _ _ _ _ _ _ _ _ _ _ 282 _ [(vi g22)]
          refine W.iload at_282 rfl ?_
          refine W.icmpY 289 at_284 (y_eq (by have := a_add g15 g22; have := q4; have := q0; have := a_add (0 : Int32) g22; omega)) (by decide) ?_
          refine W.aload 17 at_289 rfl rfl ?_
          refine W.iconst (0) at_291 (by decide) ?_
          refine W.iload at_292 rfl ?_
          refine W.aload 5 at_294 rfl rfl ?_
          refine W.iload at_296 rfl ?_
          refine W.iload at_298 rfl ?_
          refine W.aload 6 at_300 rfl rfl ?_
          refine W.iload at_302 rfl ?_
          refine W.callS (as := [(vr a41), (vi 0), (vi g22), (vr a2), (vi g13), (vi 0), (vr a7), (vi g15)]) 0 [] at_304 (wq hw 83 rfl) (wq hw 84 rfl) (wq hw 85 rfl) (wq hw 86 rfl) (c37_at hw hs (hx1 := (by decide)) (hx2 := (by have := a_add g15 g22; have := q4; have := q0; have := a_add (0 : Int32) g22; omega)) (hx3 := (by have := a_add g13 g21; have := q4; omega)) (hx4 := (by decide)) (hx5 := (by have := a_add g15 g22; have := q4; have := q0; have := a_add (0 : Int32) g22; omega)) (hr0 := by have := a_add g15 g22; have := q4; have := q0; have := a_add (0 : Int32) g22; omega) (hr1 := by have := q0; have := a_add g13 (0 : Int32); have := q4; have := a_add g13 g21; omega) (hr2 := by have := a_add g15 g22; have := q0; have := q4; have := a_add (0 : Int32) (4 : Int32); have := a_add (0 : Int32) g22; omega) (l1 := [g3, g4, g5, g6]) (hl_l1 := (len_q (k := 4) rfl (by decide))) (hb_l1 := (bl4 hg3 hg4 hg5 hg6)) (l2 := [g8, g9, g10, g11]) (hl_l2 := (len_q (k := 4) rfl (by decide))) (hb_l2 := (bl4 hg8 hg9 hg10 hg11)) (l3 := gl43) (hl_l3 := hgl43) (hA := (fun k h1 h2 => hP3 _ k (by decide) h1 h2)) (hB := (fun k h1 h2 h3 => hP4 _ k h1 (by have := q0; have := a_add (0 : Int32) g22; have := a_add g15 g22; have := q4; omega) h3)) (mp3 := m11) (mp1 := m14) (mp4 := m15) (mp2 := m10)) (by decide) pd_Ljava_lang_String_II_CII_CI_Z rfl rfl rfl rfl (by decide) (fun v D' h => ?_)
          obtain ⟨rfl, rfl⟩ := h
          show W _ _ _ _ _ _ _ _ _ _ _ _ 307 _ [(vi 1)]
          refine W.ifN at_307 (n_eq (by decide)) ?_
          refine W.aload 17 at_310 rfl rfl ?_
          refine W.iconst (1) at_312 (by decide) ?_
          refine W.iload at_313 rfl ?_
          refine W.aload 5 at_315 rfl rfl ?_
          refine W.iload at_317 rfl ?_
          refine W.iload at_319 rfl ?_
          refine W.aload 6 at_321 rfl rfl ?_
          refine W.iload at_323 rfl ?_
          refine W.callS (as := [(vr a41), (vi 1), (vi g22), (vr a2), (vi g13), (vi 0), (vr a7), (vi g15)]) 0 [] at_325 (wq hw 83 rfl) (wq hw 84 rfl) (wq hw 85 rfl) (wq hw 86 rfl) (c37_at hw hs (hx1 := (by decide)) (hx2 := (by have := a_add g15 g22; have := q4; have := q0; have := a_add (0 : Int32) g22; omega)) (hx3 := (by have := a_add g13 g21; have := q4; omega)) (hx4 := (by decide)) (hx5 := (by have := a_add g15 g22; have := q4; have := q0; have := a_add (0 : Int32) g22; omega)) (hr0 := by have := a_add g15 g22; have := q4; have := q0; have := a_add (0 : Int32) g22; omega) (hr1 := by have := q0; have := a_add g13 (0 : Int32); have := q4; have := a_add g13 g21; omega) (hr2 := by have := a_add g15 g22; have := q0; have := q4; have := a_add (0 : Int32) (4 : Int32); have := a_add (0 : Int32) g22; omega) (l1 := [g3, g4, g5, g6]) (hl_l1 := (len_q (k := 4) rfl (by decide))) (hb_l1 := (bl4 hg3 hg4 hg5 hg6)) (l2 := [g8, g9, g10, g11]) (hl_l2 := (len_q (k := 4) rfl (by decide))) (hb_l2 := (bl4 hg8 hg9 hg10 hg11)) (l3 := gl43) (hl_l3 := hgl43) (hA := (fun k h1 h2 => hP3 _ k (by decide) h1 h2)) (hB := (fun k h1 h2 h3 => hP4 _ k h1 (by have := q0; have := a_add (0 : Int32) g22; have := a_add g15 g22; have := q4; omega) h3)) (mp3 := m11) (mp1 := m14) (mp4 := m15) (mp2 := m10)) (by decide) pd_Ljava_lang_String_II_CII_CI_Z rfl rfl rfl rfl (by decide) (fun v D' h => ?_)
          obtain ⟨rfl, rfl⟩ := h
          show W _ _ _ _ _ _ _ _ _ _ _ _ 328 _ [(vi 1)]
          refine W.ifN at_328 (n_eq (by decide)) ?_
          refine W.aload 17 at_331 rfl rfl ?_
          refine W.iconst (2) at_333 (by decide) ?_
          refine W.iload at_334 rfl ?_
          refine W.aload 5 at_336 rfl rfl ?_
          refine W.iload at_338 rfl ?_
          refine W.iload at_340 rfl ?_
          refine W.aload 6 at_342 rfl rfl ?_
          refine W.iload at_344 rfl ?_
          refine W.callS (as := [(vr a41), (vi 2), (vi g22), (vr a2), (vi g13), (vi 0), (vr a7), (vi g15)]) 0 [] at_346 (wq hw 83 rfl) (wq hw 84 rfl) (wq hw 85 rfl) (wq hw 86 rfl) (c37_at hw hs (hx1 := (by decide)) (hx2 := (by have := a_add g15 g22; have := q4; have := q0; have := a_add (0 : Int32) g22; omega)) (hx3 := (by have := a_add g13 g21; have := q4; omega)) (hx4 := (by decide)) (hx5 := (by have := a_add g15 g22; have := q4; have := q0; have := a_add (0 : Int32) g22; omega)) (hr0 := by have := a_add g15 g22; have := q4; have := q0; have := a_add (0 : Int32) g22; omega) (hr1 := by have := q0; have := a_add g13 (0 : Int32); have := q4; have := a_add g13 g21; omega) (hr2 := by have := a_add g15 g22; have := q0; have := q4; have := a_add (0 : Int32) (4 : Int32); have := a_add (0 : Int32) g22; omega) (l1 := [g3, g4, g5, g6]) (hl_l1 := (len_q (k := 4) rfl (by decide))) (hb_l1 := (bl4 hg3 hg4 hg5 hg6)) (l2 := [g8, g9, g10, g11]) (hl_l2 := (len_q (k := 4) rfl (by decide))) (hb_l2 := (bl4 hg8 hg9 hg10 hg11)) (l3 := gl43) (hl_l3 := hgl43) (hA := (fun k h1 h2 => hP3 _ k (by decide) h1 h2)) (hB := (fun k h1 h2 h3 => hP4 _ k h1 (by have := q0; have := a_add (0 : Int32) g22; have := a_add g15 g22; have := q4; omega) h3)) (mp3 := m11) (mp1 := m14) (mp4 := m15) (mp2 := m10)) (by decide) pd_Ljava_lang_String_II_CII_CI_Z rfl rfl rfl rfl (by decide) (fun v D' h => ?_)
          obtain ⟨rfl, rfl⟩ := h
          show W _ _ _ _ _ _ _ _ _ _ _ _ 349 _ [(vi 1)]
          refine W.ifN at_349 (n_eq (by decide)) ?_
          refine W.aload 17 at_352 rfl rfl ?_
          refine W.iconst (3) at_354 (by decide) ?_
          refine W.iload at_355 rfl ?_
          refine W.aload 5 at_357 rfl rfl ?_
          refine W.iload at_359 rfl ?_
          refine W.iload at_361 rfl ?_
          refine W.aload 6 at_363 rfl rfl ?_
          refine W.iload at_365 rfl ?_
          refine W.callS (as := [(vr a41), (vi 3), (vi g22), (vr a2), (vi g13), (vi 0), (vr a7), (vi g15)]) 0 [] at_367 (wq hw 83 rfl) (wq hw 84 rfl) (wq hw 85 rfl) (wq hw 86 rfl) (c37_at hw hs (hx1 := (by decide)) (hx2 := (by have := a_add g15 g22; have := q4; have := q0; have := a_add (0 : Int32) g22; omega)) (hx3 := (by have := a_add g13 g21; have := q4; omega)) (hx4 := (by decide)) (hx5 := (by have := a_add g15 g22; have := q4; have := q0; have := a_add (0 : Int32) g22; omega)) (hr0 := by have := a_add g15 g22; have := q4; have := q0; have := a_add (0 : Int32) g22; omega) (hr1 := by have := q0; have := a_add g13 (0 : Int32); have := q4; have := a_add g13 g21; omega) (hr2 := by have := a_add g15 g22; have := q0; have := q4; have := a_add (0 : Int32) (4 : Int32); have := a_add (0 : Int32) g22; omega) (l1 := [g3, g4, g5, g6]) (hl_l1 := (len_q (k := 4) rfl (by decide))) (hb_l1 := (bl4 hg3 hg4 hg5 hg6)) (l2 := [g8, g9, g10, g11]) (hl_l2 := (len_q (k := 4) rfl (by decide))) (hb_l2 := (bl4 hg8 hg9 hg10 hg11)) (l3 := gl43) (hl_l3 := hgl43) (hA := (fun k h1 h2 => hP3 _ k (by decide) h1 h2)) (hB := (fun k h1 h2 h3 => hP4 _ k h1 (by have := q0; have := a_add (0 : Int32) g22; have := a_add g15 g22; have := q4; omega) h3)) (mp3 := m11) (mp1 := m14) (mp4 := m15) (mp2 := m10)) (by decide) pd_Ljava_lang_String_II_CII_CI_Z rfl rfl rfl rfl (by decide) (fun v D' h => ?_)
          obtain ⟨rfl, rfl⟩ := h
          show W _ _ _ _ _ _ _ _ _ _ _ _ 370 _ [(vi 1)]
          refine W.ifN at_370 (n_eq (by decide)) ?_
          refine W.aload 17 at_373 rfl rfl ?_
          refine W.iconst (4) at_375 (by decide) ?_
          refine W.iload at_376 rfl ?_
          refine W.aload 5 at_378 rfl rfl ?_
          refine W.iload at_380 rfl ?_
          refine W.iload at_382 rfl ?_
          refine W.aload 6 at_384 rfl rfl ?_
          refine W.iload at_386 rfl ?_
          refine W.callS (as := [(vr a41), (vi 4), (vi g22), (vr a2), (vi g13), (vi 0), (vr a7), (vi g15)]) 0 [] at_388 (wq hw 83 rfl) (wq hw 84 rfl) (wq hw 85 rfl) (wq hw 86 rfl) (c37_at hw hs (hx1 := (by decide)) (hx2 := (by have := a_add g15 g22; have := q4; have := q0; have := a_add (0 : Int32) g22; omega)) (hx3 := (by have := a_add g13 g21; have := q4; omega)) (hx4 := (by decide)) (hx5 := (by have := a_add g15 g22; have := q4; have := q0; have := a_add (0 : Int32) g22; omega)) (hr0 := by have := a_add g15 g22; have := q4; have := q0; have := a_add (0 : Int32) g22; omega) (hr1 := by have := q0; have := a_add g13 (0 : Int32); have := q4; have := a_add g13 g21; omega) (hr2 := by have := a_add g15 g22; have := q0; have := q4; have := a_add (0 : Int32) (4 : Int32); have := a_add (0 : Int32) g22; omega) (l1 := [g3, g4, g5, g6]) (hl_l1 := (len_q (k := 4) rfl (by decide))) (hb_l1 := (bl4 hg3 hg4 hg5 hg6)) (l2 := [g8, g9, g10, g11]) (hl_l2 := (len_q (k := 4) rfl (by decide))) (hb_l2 := (bl4 hg8 hg9 hg10 hg11)) (l3 := gl43) (hl_l3 := hgl43) (hA := (fun k h1 h2 => hP3 _ k (by decide) h1 h2)) (hB := (fun k h1 h2 h3 => hP4 _ k h1 (by have := q0; have := a_add (0 : Int32) g22; have := a_add g15 g22; have := q4; omega) h3)) (mp3 := m11) (mp1 := m14) (mp4 := m15) (mp2 := m10)) (by decide) pd_Ljava_lang_String_II_CII_CI_Z rfl rfl rfl rfl (by decide) (fun v D' h => ?_)
          obtain ⟨rfl, rfl⟩ := h
          show W _ _ _ _ _ _ _ _ _ _ _ _ 391 _ [(vi 1)]
          refine W.ifN at_391 (n_eq (by decide)) ?_
          refine W.aload 17 at_394 rfl rfl ?_
          refine W.iconst (5) at_396 (by decide) ?_
          refine W.iload at_397 rfl ?_
          refine W.aload 5 at_399 rfl rfl ?_
          refine W.iload at_401 rfl ?_
          refine W.iload at_403 rfl ?_
          refine W.aload 6 at_405 rfl rfl ?_
          refine W.iload at_407 rfl ?_
          refine W.callS (as := [(vr a41), (vi 5), (vi g22), (vr a2), (vi g13), (vi 0), (vr a7), (vi g15)]) 0 [] at_409 (wq hw 83 rfl) (wq hw 84 rfl) (wq hw 85 rfl) (wq hw 86 rfl) (c37_at hw hs (hx1 := (by decide)) (hx2 := (by have := a_add g15 g22; have := q4; have := q0; have := a_add (0 : Int32) g22; omega)) (hx3 := (by have := a_add g13 g21; have := q4; omega)) (hx4 := (by decide)) (hx5 := (by have := a_add g15 g22; have := q4; have := q0; have := a_add (0 : Int32) g22; omega)) (hr0 := by have := a_add g15 g22; have := q4; have := q0; have := a_add (0 : Int32) g22; omega) (hr1 := by have := q0; have := a_add g13 (0 : Int32); have := q4; have := a_add g13 g21; omega) (hr2 := by have := a_add g15 g22; have := q0; have := q4; have := a_add (0 : Int32) (4 : Int32); have := a_add (0 : Int32) g22; omega) (l1 := [g3, g4, g5, g6]) (hl_l1 := (len_q (k := 4) rfl (by decide))) (hb_l1 := (bl4 hg3 hg4 hg5 hg6)) (l2 := [g8, g9, g10, g11]) (hl_l2 := (len_q (k := 4) rfl (by decide))) (hb_l2 := (bl4 hg8 hg9 hg10 hg11)) (l3 := gl43) (hl_l3 := hgl43) (hA := (fun k h1 h2 => hP3 _ k (by decide) h1 h2)) (hB := (fun k h1 h2 h3 => hP4 _ k h1 (by have := q0; have := a_add (0 : Int32) g22; have := a_add g15 g22; have := q4; omega) h3)) (mp3 := m11) (mp1 := m14) (mp4 := m15) (mp2 := m10)) (by decide) pd_Ljava_lang_String_II_CII_CI_Z rfl rfl rfl rfl (by decide) (fun v D' h => ?_)
          obtain ⟨rfl, rfl⟩ := h
          show W _ _ _ _ _ _ _ _ _ _ _ _ 412 _ [(vi 1)]
          refine W.ifN at_412 (n_eq (by decide)) ?_
          refine W.aload 17 at_415 rfl rfl ?_
          refine W.bipush (6) at_417 (by decide) ?_
          refine W.iload at_419 rfl ?_
          refine W.aload 5 at_421 rfl rfl ?_
          refine W.iload at_423 rfl ?_
          refine W.iload at_425 rfl ?_
          refine W.aload 6 at_427 rfl rfl ?_
          refine W.iload at_429 rfl ?_
          refine W.callS (as := [(vr a41), (vi 6), (vi g22), (vr a2), (vi g13), (vi 0), (vr a7), (vi g15)]) 0 [] at_431 (wq hw 83 rfl) (wq hw 84 rfl) (wq hw 85 rfl) (wq hw 86 rfl) (c37_at hw hs (hx1 := (by decide)) (hx2 := (by have := a_add g15 g22; have := q4; have := q0; have := a_add (0 : Int32) g22; omega)) (hx3 := (by have := a_add g13 g21; have := q4; omega)) (hx4 := (by decide)) (hx5 := (by have := a_add g15 g22; have := q4; have := q0; have := a_add (0 : Int32) g22; omega)) (hr0 := by have := a_add g15 g22; have := q4; have := q0; have := a_add (0 : Int32) g22; omega) (hr1 := by have := q0; have := a_add g13 (0 : Int32); have := q4; have := a_add g13 g21; omega) (hr2 := by have := a_add g15 g22; have := q0; have := q4; have := a_add (0 : Int32) (4 : Int32); have := a_add (0 : Int32) g22; omega) (l1 := [g3, g4, g5, g6]) (hl_l1 := (len_q (k := 4) rfl (by decide))) (hb_l1 := (bl4 hg3 hg4 hg5 hg6)) (l2 := [g8, g9, g10, g11]) (hl_l2 := (len_q (k := 4) rfl (by decide))) (hb_l2 := (bl4 hg8 hg9 hg10 hg11)) (l3 := gl43) (hl_l3 := hgl43) (hA := (fun k h1 h2 => hP3 _ k (by decide) h1 h2)) (hB := (fun k h1 h2 h3 => hP4 _ k h1 (by have := q0; have := a_add (0 : Int32) g22; have := a_add g15 g22; have := q4; omega) h3)) (mp3 := m11) (mp1 := m14) (mp4 := m15) (mp2 := m10)) (by decide) pd_Ljava_lang_String_II_CII_CI_Z rfl rfl rfl rfl (by decide) (fun v D' h => ?_)
          obtain ⟨rfl, rfl⟩ := h
          show W _ _ _ _ _ _ _ _ _ _ _ _ 434 _ [(vi 1)]
          refine W.ifN at_434 (n_eq (by decide)) ?_
          refine W.aload 17 at_437 rfl rfl ?_
          refine W.bipush (7) at_439 (by decide) ?_
          refine W.iload at_441 rfl ?_
          refine W.aload 5 at_443 rfl rfl ?_
          refine W.iload at_445 rfl ?_
          refine W.iload at_447 rfl ?_
          refine W.aload 6 at_449 rfl rfl ?_
          refine W.iload at_451 rfl ?_
          refine W.callS (as := [(vr a41), (vi 7), (vi g22), (vr a2), (vi g13), (vi 0), (vr a7), (vi g15)]) 0 [] at_453 (wq hw 83 rfl) (wq hw 84 rfl) (wq hw 85 rfl) (wq hw 86 rfl) (c37_at hw hs (hx1 := (by decide)) (hx2 := (by have := a_add g15 g22; have := q4; have := q0; have := a_add (0 : Int32) g22; omega)) (hx3 := (by have := a_add g13 g21; have := q4; omega)) (hx4 := (by decide)) (hx5 := (by have := a_add g15 g22; have := q4; have := q0; have := a_add (0 : Int32) g22; omega)) (hr0 := by have := a_add g15 g22; have := q4; have := q0; have := a_add (0 : Int32) g22; omega) (hr1 := by have := q0; have := a_add g13 (0 : Int32); have := q4; have := a_add g13 g21; omega) (hr2 := by have := a_add g15 g22; have := q0; have := q4; have := a_add (0 : Int32) (4 : Int32); have := a_add (0 : Int32) g22; omega) (l1 := [g3, g4, g5, g6]) (hl_l1 := (len_q (k := 4) rfl (by decide))) (hb_l1 := (bl4 hg3 hg4 hg5 hg6)) (l2 := [g8, g9, g10, g11]) (hl_l2 := (len_q (k := 4) rfl (by decide))) (hb_l2 := (bl4 hg8 hg9 hg10 hg11)) (l3 := gl43) (hl_l3 := hgl43) (hA := (fun k h1 h2 => hP3 _ k (by decide) h1 h2)) (hB := (fun k h1 h2 h3 => hP4 _ k h1 (by have := q0; have := a_add (0 : Int32) g22; have := a_add g15 g22; have := q4; omega) h3)) (mp3 := m11) (mp1 := m14) (mp4 := m15) (mp2 := m10)) (by decide) pd_Ljava_lang_String_II_CII_CI_Z rfl rfl rfl rfl (by decide) (fun v D' h => ?_)
          obtain ⟨rfl, rfl⟩ := h
          show W _ _ _ _ _ _ _ _ _ _ _ _ 456 _ [(vi 1)]
          refine W.ifN at_456 (n_eq (by decide)) ?_
          refine W.iconst (1) at_459 (by decide) ?_
          refine W.goto 464 at_460 (by decide) ?_
          exact W.ireturn at_464 rfl (Or.inr (Or.inl rfl)) (nw_bool (by decide)) (by decide) rfl
         refine W.aload 13 at_243 rfl rfl ?_
         refine W.aload 6 at_245 rfl rfl ?_
         refine W.iload at_247 rfl ?_
         refine W.iload at_249 rfl ?_
         refine W.front 3 (D' := (a25, true, oXmlElement (vr a32) (vr a26) (vr a28) (vr a30) (vi 1) .null .null .null) :: (a33, false, oString (vr a34) (vi 0)) :: (a34, false, ar "" .byte []) :: (a32, true, oArrayList (vi 0) (vr (og1 Z))) :: (a30, false, oString (vr a31) (vi 0)) :: (a31, false, ar "" .byte [(vi 101)]) :: (a28, false, oString (vr a29) (vi 0)) :: (a29, false, ar "" .byte [(vi 101)]) :: (a26, false, oString (vr a27) (vi 0)) :: (a27, false, ar "" .byte []) :: (a2, true, ar "[C" .char [(vi g3), (vi g4), (vi g5), (vi g6)]) :: (a7, true, ar "[C" .char [(vi g8), (vi g9), (vi g10), (vi g11)]) :: []) rfl rfl ?_
         refine W.callV (as := [(vr a7), (vi g15), (vi g22)]) 0 [] at_251 (wq hw 87 rfl) (wq hw 88 rfl) (wq hw 90 rfl) (wq hw 90 rfl) (wq hw 89 rfl) (wq hw 3 rfl) (wq hw 91 rfl) (Hp.exa m0) (c10_appendText hw hs (hx1 := (by have := a_add g15 g22; have := q4; omega)) (hx2 := (by have := a_add g15 g22; have := q4; omega)) (hr0 := by have := a_add g15 g22; have := q4; omega) (l1 := [g8, g9, g10, g11]) (hl_l1 := (len_q (k := 4) rfl (by decide))) (hb_l1 := (bl4 hg8 hg9 hg10 hg11)) (mp2 := m10)) (by decide) pd__CII_V rfl rfl rfl rfl (by decide) (fun v D' h => ?_)
         obtain ⟨a45, a46, h5, hl47, rfl, rfl⟩ := h
         have ih5 := t_le h5
         show W _ _ _ _ _ _ _ _ _ _ _ _ 254 _ []
         refine W.iload at_254 rfl ?_
         refine W.istore (ls' := #[iv z0, iv z1, iv z2, iv z3, iv z4, rv a2, rv a7, iv g13, iv g21, iv g15, iv g22, iv g18, iv g23, rv a25, rv a33, iv 0, iv g22, uu, uu]) at_256 rfl ?_
         refine W.aload 13 at_258 rfl rfl ?_
         refine W.callV (as := []) 0 [] at_260 (wq hw 57 rfl) (wq hw 58 rfl) (wq hw 60 rfl) (wq hw 60 rfl) (wq hw 59 rfl) (wq hw 3 rfl) (wq hw 61 rfl) (Hp.exa m2) (c26_text hw hs (hx1 := (by have := q0; have := a_add (0 : Int32) g22; have := a_add g15 g22; have := q4; have := a_sub ((0 : Int32) + g22) g22; omega)) (hx2 := (by have := a_add g15 g22; have := q4; have := q0; have := a_add (0 : Int32) g22; have := a_sub ((0 : Int32) + g22) g22; omega)) (hr0 := by have := q0; have := a_add (0 : Int32) g22; have := a_add g15 g22; have := q4; have := a_sub ((0 : Int32) + g22) g22; omega) (l1 := (put (List.replicate g22.toInt.toNat (0 : Int32)) (0 : Int32).toInt.toNat [g8, g9, g10, g11] g15.toInt.toNat g22.toInt.toNat)) (hl_l1 := hl47) (mp1 := m2) (mp6 := m1) (mp10 := m0)) (by decide) pd__Ljava_lang_String_ rfl rfl rfl rfl (by decide) (fun v D' h => ?_)
         rcases h with ⟨a48, a49, h6, rfl, rfl⟩ | ⟨a50, a51, h7, h8, hl52, rfl, rfl⟩
         ·
          have ih6 := t_eq h6
          show W _ _ _ _ _ _ _ _ _ _ _ _ 263 _ [(vr a48)]
          refine W.astore (ls' := #[iv z0, iv z1, iv z2, iv z3, iv z4, rv a2, rv a7, iv g13, iv g21, iv g15, iv g22, iv g18, iv g23, rv a25, rv a33, iv 0, iv g22, rv a48, uu]) at_263 rfl rfl ?_
          refine W.front 1 (D' := (a48, true, oString (vr a49) (vi 0)) :: (a49, true, ar "[B" .byte (lm (put (List.replicate g22.toInt.toNat (0 : Int32)) (0 : Int32).toInt.toNat [g8, g9, g10, g11] g15.toInt.toNat g22.toInt.toNat))) :: (a46, true, ar "[B" .byte (lm (put (List.replicate g22.toInt.toNat (0 : Int32)) (0 : Int32).toInt.toNat [g8, g9, g10, g11] g15.toInt.toNat g22.toInt.toNat))) :: (a45, true, oStringBuilder (vr a46) (vi 0) (vi ((0 : Int32) + g22))) :: (a25, true, oXmlElement (vr a32) (vr a26) (vr a28) (vr a30) (vi 1) .null .null (vr a45)) :: (a33, false, oString (vr a34) (vi 0)) :: (a34, false, ar "" .byte []) :: (a32, true, oArrayList (vi 0) (vr (og1 Z))) :: (a30, false, oString (vr a31) (vi 0)) :: (a31, false, ar "" .byte [(vi 101)]) :: (a28, false, oString (vr a29) (vi 0)) :: (a29, false, ar "" .byte [(vi 101)]) :: (a26, false, oString (vr a27) (vi 0)) :: (a27, false, ar "" .byte []) :: (a2, true, ar "[C" .char [(vi g3), (vi g4), (vi g5), (vi g6)]) :: (a7, true, ar "[C" .char [(vi g8), (vi g9), (vi g10), (vi g11)]) :: []) rfl rfl ?_
          refine W.front 2 (D' := (a46, true, ar "[B" .byte (lm (put (List.replicate g22.toInt.toNat (0 : Int32)) (0 : Int32).toInt.toNat [g8, g9, g10, g11] g15.toInt.toNat g22.toInt.toNat))) :: (a48, true, oString (vr a49) (vi 0)) :: (a49, true, ar "[B" .byte (lm (put (List.replicate g22.toInt.toNat (0 : Int32)) (0 : Int32).toInt.toNat [g8, g9, g10, g11] g15.toInt.toNat g22.toInt.toNat))) :: (a45, true, oStringBuilder (vr a46) (vi 0) (vi ((0 : Int32) + g22))) :: (a25, true, oXmlElement (vr a32) (vr a26) (vr a28) (vr a30) (vi 1) .null .null (vr a45)) :: (a33, false, oString (vr a34) (vi 0)) :: (a34, false, ar "" .byte []) :: (a32, true, oArrayList (vi 0) (vr (og1 Z))) :: (a30, false, oString (vr a31) (vi 0)) :: (a31, false, ar "" .byte [(vi 101)]) :: (a28, false, oString (vr a29) (vi 0)) :: (a29, false, ar "" .byte [(vi 101)]) :: (a26, false, oString (vr a27) (vi 0)) :: (a27, false, ar "" .byte []) :: (a2, true, ar "[C" .char [(vi g3), (vi g4), (vi g5), (vi g6)]) :: (a7, true, ar "[C" .char [(vi g8), (vi g9), (vi g10), (vi g11)]) :: []) rfl rfl ?_
          refine W.front 3 (D' := (a45, true, oStringBuilder (vr a46) (vi 0) (vi ((0 : Int32) + g22))) :: (a46, true, ar "[B" .byte (lm (put (List.replicate g22.toInt.toNat (0 : Int32)) (0 : Int32).toInt.toNat [g8, g9, g10, g11] g15.toInt.toNat g22.toInt.toNat))) :: (a48, true, oString (vr a49) (vi 0)) :: (a49, true, ar "[B" .byte (lm (put (List.replicate g22.toInt.toNat (0 : Int32)) (0 : Int32).toInt.toNat [g8, g9, g10, g11] g15.toInt.toNat g22.toInt.toNat))) :: (a25, true, oXmlElement (vr a32) (vr a26) (vr a28) (vr a30) (vi 1) .null .null (vr a45)) :: (a33, false, oString (vr a34) (vi 0)) :: (a34, false, ar "" .byte []) :: (a32, true, oArrayList (vi 0) (vr (og1 Z))) :: (a30, false, oString (vr a31) (vi 0)) :: (a31, false, ar "" .byte [(vi 101)]) :: (a28, false, oString (vr a29) (vi 0)) :: (a29, false, ar "" .byte [(vi 101)]) :: (a26, false, oString (vr a27) (vi 0)) :: (a27, false, ar "" .byte []) :: (a2, true, ar "[C" .char [(vi g3), (vi g4), (vi g5), (vi g6)]) :: (a7, true, ar "[C" .char [(vi g8), (vi g9), (vi g10), (vi g11)]) :: []) rfl rfl ?_
          refine W.front 15 (D' := (a7, true, ar "[C" .char [(vi g8), (vi g9), (vi g10), (vi g11)]) :: (a45, true, oStringBuilder (vr a46) (vi 0) (vi ((0 : Int32) + g22))) :: (a46, true, ar "[B" .byte (lm (put (List.replicate g22.toInt.toNat (0 : Int32)) (0 : Int32).toInt.toNat [g8, g9, g10, g11] g15.toInt.toNat g22.toInt.toNat))) :: (a48, true, oString (vr a49) (vi 0)) :: (a49, true, ar "[B" .byte (lm (put (List.replicate g22.toInt.toNat (0 : Int32)) (0 : Int32).toInt.toNat [g8, g9, g10, g11] g15.toInt.toNat g22.toInt.toNat))) :: (a25, true, oXmlElement (vr a32) (vr a26) (vr a28) (vr a30) (vi 1) .null .null (vr a45)) :: (a33, false, oString (vr a34) (vi 0)) :: (a34, false, ar "" .byte []) :: (a32, true, oArrayList (vi 0) (vr (og1 Z))) :: (a30, false, oString (vr a31) (vi 0)) :: (a31, false, ar "" .byte [(vi 101)]) :: (a28, false, oString (vr a29) (vi 0)) :: (a29, false, ar "" .byte [(vi 101)]) :: (a26, false, oString (vr a27) (vi 0)) :: (a27, false, ar "" .byte []) :: (a2, true, ar "[C" .char [(vi g3), (vi g4), (vi g5), (vi g6)]) :: []) rfl rfl ?_
          refine W.front 15 (D' := (a2, true, ar "[C" .char [(vi g3), (vi g4), (vi g5), (vi g6)]) :: (a7, true, ar "[C" .char [(vi g8), (vi g9), (vi g10), (vi g11)]) :: (a45, true, oStringBuilder (vr a46) (vi 0) (vi ((0 : Int32) + g22))) :: (a46, true, ar "[B" .byte (lm (put (List.replicate g22.toInt.toNat (0 : Int32)) (0 : Int32).toInt.toNat [g8, g9, g10, g11] g15.toInt.toNat g22.toInt.toNat))) :: (a48, true, oString (vr a49) (vi 0)) :: (a49, true, ar "[B" .byte (lm (put (List.replicate g22.toInt.toNat (0 : Int32)) (0 : Int32).toInt.toNat [g8, g9, g10, g11] g15.toInt.toNat g22.toInt.toNat))) :: (a25, true, oXmlElement (vr a32) (vr a26) (vr a28) (vr a30) (vi 1) .null .null (vr a45)) :: (a33, false, oString (vr a34) (vi 0)) :: (a34, false, ar "" .byte []) :: (a32, true, oArrayList (vi 0) (vr (og1 Z))) :: (a30, false, oString (vr a31) (vi 0)) :: (a31, false, ar "" .byte [(vi 101)]) :: (a28, false, oString (vr a29) (vi 0)) :: (a29, false, ar "" .byte [(vi 101)]) :: (a26, false, oString (vr a27) (vi 0)) :: (a27, false, ar "" .byte []) :: []) rfl rfl ?_
          refine W.front 15 (D' := (a27, false, ar "" .byte []) :: (a2, true, ar "[C" .char [(vi g3), (vi g4), (vi g5), (vi g6)]) :: (a7, true, ar "[C" .char [(vi g8), (vi g9), (vi g10), (vi g11)]) :: (a45, true, oStringBuilder (vr a46) (vi 0) (vi ((0 : Int32) + g22))) :: (a46, true, ar "[B" .byte (lm (put (List.replicate g22.toInt.toNat (0 : Int32)) (0 : Int32).toInt.toNat [g8, g9, g10, g11] g15.toInt.toNat g22.toInt.toNat))) :: (a48, true, oString (vr a49) (vi 0)) :: (a49, true, ar "[B" .byte (lm (put (List.replicate g22.toInt.toNat (0 : Int32)) (0 : Int32).toInt.toNat [g8, g9, g10, g11] g15.toInt.toNat g22.toInt.toNat))) :: (a25, true, oXmlElement (vr a32) (vr a26) (vr a28) (vr a30) (vi 1) .null .null (vr a45)) :: (a33, false, oString (vr a34) (vi 0)) :: (a34, false, ar "" .byte []) :: (a32, true, oArrayList (vi 0) (vr (og1 Z))) :: (a30, false, oString (vr a31) (vi 0)) :: (a31, false, ar "" .byte [(vi 101)]) :: (a28, false, oString (vr a29) (vi 0)) :: (a29, false, ar "" .byte [(vi 101)]) :: (a26, false, oString (vr a27) (vi 0)) :: []) rfl rfl ?_
          refine W.front 15 (D' := (a26, false, oString (vr a27) (vi 0)) :: (a27, false, ar "" .byte []) :: (a2, true, ar "[C" .char [(vi g3), (vi g4), (vi g5), (vi g6)]) :: (a7, true, ar "[C" .char [(vi g8), (vi g9), (vi g10), (vi g11)]) :: (a45, true, oStringBuilder (vr a46) (vi 0) (vi ((0 : Int32) + g22))) :: (a46, true, ar "[B" .byte (lm (put (List.replicate g22.toInt.toNat (0 : Int32)) (0 : Int32).toInt.toNat [g8, g9, g10, g11] g15.toInt.toNat g22.toInt.toNat))) :: (a48, true, oString (vr a49) (vi 0)) :: (a49, true, ar "[B" .byte (lm (put (List.replicate g22.toInt.toNat (0 : Int32)) (0 : Int32).toInt.toNat [g8, g9, g10, g11] g15.toInt.toNat g22.toInt.toNat))) :: (a25, true, oXmlElement (vr a32) (vr a26) (vr a28) (vr a30) (vi 1) .null .null (vr a45)) :: (a33, false, oString (vr a34) (vi 0)) :: (a34, false, ar "" .byte []) :: (a32, true, oArrayList (vi 0) (vr (og1 Z))) :: (a30, false, oString (vr a31) (vi 0)) :: (a31, false, ar "" .byte [(vi 101)]) :: (a28, false, oString (vr a29) (vi 0)) :: (a29, false, ar "" .byte [(vi 101)]) :: []) rfl rfl ?_
          refine W.front 15 (D' := (a29, false, ar "" .byte [(vi 101)]) :: (a26, false, oString (vr a27) (vi 0)) :: (a27, false, ar "" .byte []) :: (a2, true, ar "[C" .char [(vi g3), (vi g4), (vi g5), (vi g6)]) :: (a7, true, ar "[C" .char [(vi g8), (vi g9), (vi g10), (vi g11)]) :: (a45, true, oStringBuilder (vr a46) (vi 0) (vi ((0 : Int32) + g22))) :: (a46, true, ar "[B" .byte (lm (put (List.replicate g22.toInt.toNat (0 : Int32)) (0 : Int32).toInt.toNat [g8, g9, g10, g11] g15.toInt.toNat g22.toInt.toNat))) :: (a48, true, oString (vr a49) (vi 0)) :: (a49, true, ar "[B" .byte (lm (put (List.replicate g22.toInt.toNat (0 : Int32)) (0 : Int32).toInt.toNat [g8, g9, g10, g11] g15.toInt.toNat g22.toInt.toNat))) :: (a25, true, oXmlElement (vr a32) (vr a26) (vr a28) (vr a30) (vi 1) .null .null (vr a45)) :: (a33, false, oString (vr a34) (vi 0)) :: (a34, false, ar "" .byte []) :: (a32, true, oArrayList (vi 0) (vr (og1 Z))) :: (a30, false, oString (vr a31) (vi 0)) :: (a31, false, ar "" .byte [(vi 101)]) :: (a28, false, oString (vr a29) (vi 0)) :: []) rfl rfl ?_
          refine W.front 15 (D' := (a28, false, oString (vr a29) (vi 0)) :: (a29, false, ar "" .byte [(vi 101)]) :: (a26, false, oString (vr a27) (vi 0)) :: (a27, false, ar "" .byte []) :: (a2, true, ar "[C" .char [(vi g3), (vi g4), (vi g5), (vi g6)]) :: (a7, true, ar "[C" .char [(vi g8), (vi g9), (vi g10), (vi g11)]) :: (a45, true, oStringBuilder (vr a46) (vi 0) (vi ((0 : Int32) + g22))) :: (a46, true, ar "[B" .byte (lm (put (List.replicate g22.toInt.toNat (0 : Int32)) (0 : Int32).toInt.toNat [g8, g9, g10, g11] g15.toInt.toNat g22.toInt.toNat))) :: (a48, true, oString (vr a49) (vi 0)) :: (a49, true, ar "[B" .byte (lm (put (List.replicate g22.toInt.toNat (0 : Int32)) (0 : Int32).toInt.toNat [g8, g9, g10, g11] g15.toInt.toNat g22.toInt.toNat))) :: (a25, true, oXmlElement (vr a32) (vr a26) (vr a28) (vr a30) (vi 1) .null .null (vr a45)) :: (a33, false, oString (vr a34) (vi 0)) :: (a34, false, ar "" .byte []) :: (a32, true, oArrayList (vi 0) (vr (og1 Z))) :: (a30, false, oString (vr a31) (vi 0)) :: (a31, false, ar "" .byte [(vi 101)]) :: []) rfl rfl ?_
          refine W.front 15 (D' := (a31, false, ar "" .byte [(vi 101)]) :: (a28, false, oString (vr a29) (vi 0)) :: (a29, false, ar "" .byte [(vi 101)]) :: (a26, false, oString (vr a27) (vi 0)) :: (a27, false, ar "" .byte []) :: (a2, true, ar "[C" .char [(vi g3), (vi g4), (vi g5), (vi g6)]) :: (a7, true, ar "[C" .char [(vi g8), (vi g9), (vi g10), (vi g11)]) :: (a45, true, oStringBuilder (vr a46) (vi 0) (vi ((0 : Int32) + g22))) :: (a46, true, ar "[B" .byte (lm (put (List.replicate g22.toInt.toNat (0 : Int32)) (0 : Int32).toInt.toNat [g8, g9, g10, g11] g15.toInt.toNat g22.toInt.toNat))) :: (a48, true, oString (vr a49) (vi 0)) :: (a49, true, ar "[B" .byte (lm (put (List.replicate g22.toInt.toNat (0 : Int32)) (0 : Int32).toInt.toNat [g8, g9, g10, g11] g15.toInt.toNat g22.toInt.toNat))) :: (a25, true, oXmlElement (vr a32) (vr a26) (vr a28) (vr a30) (vi 1) .null .null (vr a45)) :: (a33, false, oString (vr a34) (vi 0)) :: (a34, false, ar "" .byte []) :: (a32, true, oArrayList (vi 0) (vr (og1 Z))) :: (a30, false, oString (vr a31) (vi 0)) :: []) rfl rfl ?_
          refine W.front 15 (D' := (a30, false, oString (vr a31) (vi 0)) :: (a31, false, ar "" .byte [(vi 101)]) :: (a28, false, oString (vr a29) (vi 0)) :: (a29, false, ar "" .byte [(vi 101)]) :: (a26, false, oString (vr a27) (vi 0)) :: (a27, false, ar "" .byte []) :: (a2, true, ar "[C" .char [(vi g3), (vi g4), (vi g5), (vi g6)]) :: (a7, true, ar "[C" .char [(vi g8), (vi g9), (vi g10), (vi g11)]) :: (a45, true, oStringBuilder (vr a46) (vi 0) (vi ((0 : Int32) + g22))) :: (a46, true, ar "[B" .byte (lm (put (List.replicate g22.toInt.toNat (0 : Int32)) (0 : Int32).toInt.toNat [g8, g9, g10, g11] g15.toInt.toNat g22.toInt.toNat))) :: (a48, true, oString (vr a49) (vi 0)) :: (a49, true, ar "[B" .byte (lm (put (List.replicate g22.toInt.toNat (0 : Int32)) (0 : Int32).toInt.toNat [g8, g9, g10, g11] g15.toInt.toNat g22.toInt.toNat))) :: (a25, true, oXmlElement (vr a32) (vr a26) (vr a28) (vr a30) (vi 1) .null .null (vr a45)) :: (a33, false, oString (vr a34) (vi 0)) :: (a34, false, ar "" .byte []) :: (a32, true, oArrayList (vi 0) (vr (og1 Z))) :: []) rfl rfl ?_
          refine W.front 12 (D' := (a25, true, oXmlElement (vr a32) (vr a26) (vr a28) (vr a30) (vi 1) .null .null (vr a45)) :: (a30, false, oString (vr a31) (vi 0)) :: (a31, false, ar "" .byte [(vi 101)]) :: (a28, false, oString (vr a29) (vi 0)) :: (a29, false, ar "" .byte [(vi 101)]) :: (a26, false, oString (vr a27) (vi 0)) :: (a27, false, ar "" .byte []) :: (a2, true, ar "[C" .char [(vi g3), (vi g4), (vi g5), (vi g6)]) :: (a7, true, ar "[C" .char [(vi g8), (vi g9), (vi g10), (vi g11)]) :: (a45, true, oStringBuilder (vr a46) (vi 0) (vi ((0 : Int32) + g22))) :: (a46, true, ar "[B" .byte (lm (put (List.replicate g22.toInt.toNat (0 : Int32)) (0 : Int32).toInt.toNat [g8, g9, g10, g11] g15.toInt.toNat g22.toInt.toNat))) :: (a48, true, oString (vr a49) (vi 0)) :: (a49, true, ar "[B" .byte (lm (put (List.replicate g22.toInt.toNat (0 : Int32)) (0 : Int32).toInt.toNat [g8, g9, g10, g11] g15.toInt.toNat g22.toInt.toNat))) :: (a33, false, oString (vr a34) (vi 0)) :: (a34, false, ar "" .byte []) :: (a32, true, oArrayList (vi 0) (vr (og1 Z))) :: []) rfl rfl ?_
          refine W.front 15 (D' := (a32, true, oArrayList (vi 0) (vr (og1 Z))) :: (a25, true, oXmlElement (vr a32) (vr a26) (vr a28) (vr a30) (vi 1) .null .null (vr a45)) :: (a30, false, oString (vr a31) (vi 0)) :: (a31, false, ar "" .byte [(vi 101)]) :: (a28, false, oString (vr a29) (vi 0)) :: (a29, false, ar "" .byte [(vi 101)]) :: (a26, false, oString (vr a27) (vi 0)) :: (a27, false, ar "" .byte []) :: (a2, true, ar "[C" .char [(vi g3), (vi g4), (vi g5), (vi g6)]) :: (a7, true, ar "[C" .char [(vi g8), (vi g9), (vi g10), (vi g11)]) :: (a45, true, oStringBuilder (vr a46) (vi 0) (vi ((0 : Int32) + g22))) :: (a46, true, ar "[B" .byte (lm (put (List.replicate g22.toInt.toNat (0 : Int32)) (0 : Int32).toInt.toNat [g8, g9, g10, g11] g15.toInt.toNat g22.toInt.toNat))) :: (a48, true, oString (vr a49) (vi 0)) :: (a49, true, ar "[B" .byte (lm (put (List.replicate g22.toInt.toNat (0 : Int32)) (0 : Int32).toInt.toNat [g8, g9, g10, g11] g15.toInt.toNat g22.toInt.toNat))) :: (a33, false, oString (vr a34) (vi 0)) :: (a34, false, ar "" .byte []) :: []) rfl rfl ?_
          refine W.front 15 (D' := (a34, false, ar "" .byte []) :: (a32, true, oArrayList (vi 0) (vr (og1 Z))) :: (a25, true, oXmlElement (vr a32) (vr a26) (vr a28) (vr a30) (vi 1) .null .null (vr a45)) :: (a30, false, oString (vr a31) (vi 0)) :: (a31, false, ar "" .byte [(vi 101)]) :: (a28, false, oString (vr a29) (vi 0)) :: (a29, false, ar "" .byte [(vi 101)]) :: (a26, false, oString (vr a27) (vi 0)) :: (a27, false, ar "" .byte []) :: (a2, true, ar "[C" .char [(vi g3), (vi g4), (vi g5), (vi g6)]) :: (a7, true, ar "[C" .char [(vi g8), (vi g9), (vi g10), (vi g11)]) :: (a45, true, oStringBuilder (vr a46) (vi 0) (vi ((0 : Int32) + g22))) :: (a46, true, ar "[B" .byte (lm (put (List.replicate g22.toInt.toNat (0 : Int32)) (0 : Int32).toInt.toNat [g8, g9, g10, g11] g15.toInt.toNat g22.toInt.toNat))) :: (a48, true, oString (vr a49) (vi 0)) :: (a49, true, ar "[B" .byte (lm (put (List.replicate g22.toInt.toNat (0 : Int32)) (0 : Int32).toInt.toNat [g8, g9, g10, g11] g15.toInt.toNat g22.toInt.toNat))) :: (a33, false, oString (vr a34) (vi 0)) :: []) rfl rfl ?_
          refine W.front 15 (D' := (a33, false, oString (vr a34) (vi 0)) :: (a34, false, ar "" .byte []) :: (a32, true, oArrayList (vi 0) (vr (og1 Z))) :: (a25, true, oXmlElement (vr a32) (vr a26) (vr a28) (vr a30) (vi 1) .null .null (vr a45)) :: (a30, false, oString (vr a31) (vi 0)) :: (a31, false, ar "" .byte [(vi 101)]) :: (a28, false, oString (vr a29) (vi 0)) :: (a29, false, ar "" .byte [(vi 101)]) :: (a26, false, oString (vr a27) (vi 0)) :: (a27, false, ar "" .byte []) :: (a2, true, ar "[C" .char [(vi g3), (vi g4), (vi g5), (vi g6)]) :: (a7, true, ar "[C" .char [(vi g8), (vi g9), (vi g10), (vi g11)]) :: (a45, true, oStringBuilder (vr a46) (vi 0) (vi ((0 : Int32) + g22))) :: (a46, true, ar "[B" .byte (lm (put (List.replicate g22.toInt.toNat (0 : Int32)) (0 : Int32).toInt.toNat [g8, g9, g10, g11] g15.toInt.toNat g22.toInt.toNat))) :: (a48, true, oString (vr a49) (vi 0)) :: (a49, true, ar "[B" .byte (lm (put (List.replicate g22.toInt.toNat (0 : Int32)) (0 : Int32).toInt.toNat [g8, g9, g10, g11] g15.toInt.toNat g22.toInt.toNat))) :: []) rfl rfl ?_
          exact W.mono (by decide) (by decide) (K44 a45 a46 (put (List.replicate g22.toInt.toNat (0 : Int32)) (0 : Int32).toInt.toNat [g8, g9, g10, g11] g15.toInt.toNat g22.toInt.toNat) a48 a49 (put (List.replicate g22.toInt.toNat (0 : Int32)) (0 : Int32).toInt.toNat [g8, g9, g10, g11] g15.toInt.toNat g22.toInt.toNat) hl47 hl47 (by have := q0; have := a_add (0 : Int32) g22; have := q4; have := a_add g15 g22; have := a_add g13 g21; have := a_sub ((0 : Int32) + g22) g22; omega) (by have := q0; have := a_add (0 : Int32) g22; have := q4; have := a_add g15 g22; have := a_add g13 g21; have := a_sub ((0 : Int32) + g22) g22; omega) (by intro i k h1 h2 h3; exfalso; have := q0; have := a_add (0 : Int32) g22; have := q4; have := a_add g15 g22; have := a_add g13 g21; have := a_sub ((0 : Int32) + g22) g22; omega) (by intro i k h1 h2 h3; have := q0; have := a_add (0 : Int32) g22; have := q4; have := a_add g15 g22; have := a_add g13 g21; have := a_sub ((0 : Int32) + g22) g22; rw [sel_put_in (k := k) (len_rep (z := g22) (by omega)) (len_q (k := 4) (z := (4 : Int32)) rfl (by decide)) (by omega), z_b255 (sel_b (bl4 hg8 hg9 hg10 hg11) (by decide) k)]))
         ·
          exact absurd h7 (Classical.not_not.mpr (y_eq (by have := q0; have := a_add (0 : Int32) g22; have := a_add g15 g22; have := q4; have := a_sub ((0 : Int32) + g22) g22; omega)))
       ·
        have ih3 := f_eq h3
        have K64 : ∀ (a54 : Addr) (a55 : Addr) (g56 : Int32) (gl57 : List Int32) (g58 : Int32) (g59 : Int32) (a60 : Addr) (a61 : Addr) (g62 : Int32) (gl63 : List Int32), -4 ≤ g56.toInt ∧ g56.toInt ≤ 12 → (gl57.length : Int) = g56.toInt → 0 ≤ g58.toInt ∧ g58.toInt ≤ 8 → 0 ≤ g59.toInt ∧ g59.toInt ≤ 4 → -4 ≤ g62.toInt ∧ g62.toInt ≤ 12 → (gl63.length : Int) = g62.toInt → (g62.toInt = (g21 + g59).toInt) → ((g15 + g59).toInt ≤ 4) → (∀ i k : Int32, 0 ≤ i.toInt → i.toInt < g21.toInt → k.toInt = g13.toInt + i.toInt → (sel i gl63 &&& 255).toInt = (sel k [g3, g4, g5, g6]).toInt) → (∀ i k : Int32, g21.toInt ≤ i.toInt → i.toInt < (g21 + g59).toInt → k.toInt = g15.toInt + i.toInt - g21.toInt → (sel i gl63 &&& 255).toInt = (sel k [g8, g9, g10, g11]).toInt) → W Z EL room_1 "com/example/montaje/montaje/xml/XmlElementTextPinLaw" "law" code maxLocals ret (fun v _ => v = some (.int 1)) ((a33, false, oString (vr a34) (vi 0)) :: (a34, false, ar "" .byte []) :: (a32, true, oArrayList (vi 0) (vr (og1 Z))) :: (a25, true, oXmlElement (vr a32) (vr a26) (vr a28) (vr a30) (vi 1) .null .null (vr a54)) :: (a30, false, oString (vr a31) (vi 0)) :: (a31, false, ar "" .byte [(vi 101)]) :: (a28, false, oString (vr a29) (vi 0)) :: (a29, false, ar "" .byte [(vi 101)]) :: (a26, false, oString (vr a27) (vi 0)) :: (a27, false, ar "" .byte []) :: (a2, true, ar "[C" .char [(vi g3), (vi g4), (vi g5), (vi g6)]) :: (a7, true, ar "[C" .char [(vi g8), (vi g9), (vi g10), (vi g11)]) :: (a54, true, oStringBuilder (vr a55) (vi 0) (vi g58)) :: (a55, true, ar "[B" .byte (lm gl57)) :: (a60, true, oString (vr a61) (vi 0)) :: (a61, true, ar "[B" .byte (lm gl63)) :: []) 18 175 265 #[iv z0, iv z1, iv z2, iv z3, iv z4, rv a2, rv a7, iv g13, iv g21, iv g15, iv g22, iv g18, iv g23, rv a25, rv a33, iv g21, iv g59, rv a60, uu] [] := by
         intro a54 a55 g56 gl57 g58 g59 a60 a61 g62 gl63 hg56 hgl57 hg58 hg59 hg62 hgl63 hP1 hP2 hP3 hP4
         refine W.iload at_265 rfl ?_
         refine W.iload at_267 rfl ?_
         refine W.iadd at_269 ?_
         refine W.istore (ls' := #[iv z0, iv z1, iv z2, iv z3, iv z4, rv a2, rv a7, iv g13, iv g21, iv g15, iv g22, iv g18, iv g23, rv a25, rv a33, iv g21, iv g59, rv a60, iv (g21 + g59)]) at_270 rfl ?_
         refine W.aload 17 at_272 rfl rfl ?_
         refine W.ifnullN at_274 ?_
         refine W.aload 17 at_277 rfl rfl ?_
         refine W.callV (as := []) 0 [] at_279 (wq hw 71 rfl) (wq hw 72 rfl) (wq hw 74 rfl) (wq hw 74 rfl) (wq hw 73 rfl) (wq hw 5 rfl) (wq hw 75 rfl) (Hp.exa m14) (c57_length hw hs (hx1 := (by have := a_add g21 g59; have := a_add g13 g21; have := q4; have := a_add g15 g59; have := a_add g15 g22; omega)) (l1 := gl63) (hl_l1 := hgl63) (mp1 := m14) (mp2 := m15)) (by decide) pd__I rfl rfl rfl rfl (by decide) (fun v D' h => ?_)
         obtain ⟨rfl, rfl⟩ := h
         show W _ _ _ _ _ _ _ _ _ _ _ _ 282 _ [(vi g62)]
         refine W.iload at_282 rfl ?_
         refine W.icmpY 289 at_284 (y_eq (by have := a_add g21 g59; have := a_add g13 g21; have := q4; have := a_add g15 g59; have := a_add g15 g22; omega)) (by decide) ?_
         refine W.aload 17 at_289 rfl rfl ?_
         refine W.iconst (0) at_291 (by decide) ?_
         refine W.iload at_292 rfl ?_
         refine W.aload 5 at_294 rfl rfl ?_
         refine W.iload at_296 rfl ?_
         refine W.iload at_298 rfl ?_
         refine W.aload 6 at_300 rfl rfl ?_
         refine W.iload at_302 rfl ?_
         refine W.callS (as := [(vr a60), (vi 0), (vi (g21 + g59)), (vr a2), (vi g13), (vi g21), (vr a7), (vi g15)]) 0 [] at_304 (wq hw 83 rfl) (wq hw 84 rfl) (wq hw 85 rfl) (wq hw 86 rfl) (c58_at hw hs (hx1 := (by decide)) (hx2 := (by have := a_add g21 g59; have := a_add g13 g21; have := q4; have := a_add g15 g59; have := a_add g15 g22; omega)) (hx3 := (by have := a_add g13 g21; have := q4; have := a_add g21 g59; have := a_add g15 g59; omega)) (hx4 := (by have := a_add g13 g21; have := q4; have := a_add g21 g59; have := a_add g15 g59; have := a_add g15 g22; omega)) (hx5 := (by have := a_add g15 g22; have := q4; have := a_add g15 g59; have := a_add g21 g59; have := a_add g13 g21; omega)) (hx6 := (by have := a_add g21 g59; have := a_add g13 g21; have := q4; have := a_add g15 g59; have := a_add g15 g22; omega)) (hr0 := by have := a_add g21 g59; have := a_add g13 g21; have := q4; have := a_add g15 g59; have := a_add g15 g22; omega) (hr1 := by have := a_add g13 g21; have := q4; have := a_add g21 g59; have := a_add g15 g59; have := a_add g15 g22; omega) (hr2 := by have := a_add g21 g59; have := a_add g15 (g21 + g59); have := q4; have := a_add g21 (4 : Int32); have := a_add g13 g21; have := a_add g15 g22; have := a_add g15 g59; omega) (l1 := [g3, g4, g5, g6]) (hl_l1 := (len_q (k := 4) rfl (by decide))) (hb_l1 := (bl4 hg3 hg4 hg5 hg6)) (l2 := [g8, g9, g10, g11]) (hl_l2 := (len_q (k := 4) rfl (by decide))) (hb_l2 := (bl4 hg8 hg9 hg10 hg11)) (l3 := gl63) (hl_l3 := hgl63) (hA := (fun k h1 h2 => hP3 _ k (by decide) h1 h2)) (hB := (fun k h1 h2 h3 => hP4 _ k h1 (by have := a_add g21 g59; have := q0; have := a_add g13 g21; have := q4; have := a_add g15 g59; have := a_add g15 g22; omega) h3)) (mp3 := m11) (mp1 := m14) (mp4 := m15) (mp2 := m10)) (by decide) pd_Ljava_lang_String_II_CII_CI_Z rfl rfl rfl rfl (by decide) (fun v D' h => ?_)
         obtain ⟨rfl, rfl⟩ := h
         show W _ _ _ _ _ _ _ _ _ _ _ _ 307 _ [(vi 1)]
         refine W.ifN at_307 (n_eq (by decide)) ?_
         refine W.aload 17 at_310 rfl rfl ?_
         refine W.iconst (1) at_312 (by decide) ?_
         refine W.iload at_313 rfl ?_
         refine W.aload 5 at_315 rfl rfl ?_
         refine W.iload at_317 rfl ?_
         refine W.iload at_319 rfl ?_
         refine W.aload 6 at_321 rfl rfl ?_
         refine W.iload at_323 rfl ?_
         refine W.callS (as := [(vr a60), (vi 1), (vi (g21 + g59)), (vr a2), (vi g13), (vi g21), (vr a7), (vi g15)]) 0 [] at_325 (wq hw 83 rfl) (wq hw 84 rfl) (wq hw 85 rfl) (wq hw 86 rfl) (c58_at hw hs (hx1 := (by decide)) (hx2 := (by have := a_add g21 g59; have := a_add g13 g21; have := q4; have := a_add g15 g59; have := a_add g15 g22; omega)) (hx3 := (by have := a_add g13 g21; have := q4; have := a_add g21 g59; have := a_add g15 g59; omega)) (hx4 := (by have := a_add g13 g21; have := q4; have := a_add g21 g59; have := a_add g15 g59; have := a_add g15 g22; omega)) (hx5 := (by have := a_add g15 g22; have := q4; have := a_add g15 g59; have := a_add g21 g59; have := a_add g13 g21; omega)) (hx6 := (by have := a_add g21 g59; have := a_add g13 g21; have := q4; have := a_add g15 g59; have := a_add g15 g22; omega)) (hr0 := by have := a_add g21 g59; have := a_add g13 g21; have := q4; have := a_add g15 g59; have := a_add g15 g22; omega) (hr1 := by have := a_add g13 g21; have := q4; have := a_add g21 g59; have := a_add g15 g59; have := a_add g15 g22; omega) (hr2 := by have := a_add g21 g59; have := a_add g15 (g21 + g59); have := q4; have := a_add g21 (4 : Int32); have := a_add g13 g21; have := a_add g15 g22; have := a_add g15 g59; omega) (l1 := [g3, g4, g5, g6]) (hl_l1 := (len_q (k := 4) rfl (by decide))) (hb_l1 := (bl4 hg3 hg4 hg5 hg6)) (l2 := [g8, g9, g10, g11]) (hl_l2 := (len_q (k := 4) rfl (by decide))) (hb_l2 := (bl4 hg8 hg9 hg10 hg11)) (l3 := gl63) (hl_l3 := hgl63) (hA := (fun k h1 h2 => hP3 _ k (by decide) h1 h2)) (hB := (fun k h1 h2 h3 => hP4 _ k h1 (by have := a_add g21 g59; have := q0; have := a_add g13 g21; have := q4; have := a_add g15 g59; have := a_add g15 g22; omega) h3)) (mp3 := m11) (mp1 := m14) (mp4 := m15) (mp2 := m10)) (by decide) pd_Ljava_lang_String_II_CII_CI_Z rfl rfl rfl rfl (by decide) (fun v D' h => ?_)
         obtain ⟨rfl, rfl⟩ := h
         show W _ _ _ _ _ _ _ _ _ _ _ _ 328 _ [(vi 1)]
         refine W.ifN at_328 (n_eq (by decide)) ?_
         refine W.aload 17 at_331 rfl rfl ?_
         refine W.iconst (2) at_333 (by decide) ?_
         refine W.iload at_334 rfl ?_
         refine W.aload 5 at_336 rfl rfl ?_
         refine W.iload at_338 rfl ?_
         refine W.iload at_340 rfl ?_
         refine W.aload 6 at_342 rfl rfl ?_
         refine W.iload at_344 rfl ?_
         refine W.callS (as := [(vr a60), (vi 2), (vi (g21 + g59)), (vr a2), (vi g13), (vi g21), (vr a7), (vi g15)]) 0 [] at_346 (wq hw 83 rfl) (wq hw 84 rfl) (wq hw 85 rfl) (wq hw 86 rfl) (c58_at hw hs (hx1 := (by decide)) (hx2 := (by have := a_add g21 g59; have := a_add g13 g21; have := q4; have := a_add g15 g59; have := a_add g15 g22; omega)) (hx3 := (by have := a_add g13 g21; have := q4; have := a_add g21 g59; have := a_add g15 g59; omega)) (hx4 := (by have := a_add g13 g21; have := q4; have := a_add g21 g59; have := a_add g15 g59; have := a_add g15 g22; omega)) (hx5 := (by have := a_add g15 g22; have := q4; have := a_add g15 g59; have := a_add g21 g59; have := a_add g13 g21; omega)) (hx6 := (by have := a_add g21 g59; have := a_add g13 g21; have := q4; have := a_add g15 g59; have := a_add g15 g22; omega)) (hr0 := by have := a_add g21 g59; have := a_add g13 g21; have := q4; have := a_add g15 g59; have := a_add g15 g22; omega) (hr1 := by have := a_add g13 g21; have := q4; have := a_add g21 g59; have := a_add g15 g59; have := a_add g15 g22; omega) (hr2 := by have := a_add g21 g59; have := a_add g15 (g21 + g59); have := q4; have := a_add g21 (4 : Int32); have := a_add g13 g21; have := a_add g15 g22; have := a_add g15 g59; omega) (l1 := [g3, g4, g5, g6]) (hl_l1 := (len_q (k := 4) rfl (by decide))) (hb_l1 := (bl4 hg3 hg4 hg5 hg6)) (l2 := [g8, g9, g10, g11]) (hl_l2 := (len_q (k := 4) rfl (by decide))) (hb_l2 := (bl4 hg8 hg9 hg10 hg11)) (l3 := gl63) (hl_l3 := hgl63) (hA := (fun k h1 h2 => hP3 _ k (by decide) h1 h2)) (hB := (fun k h1 h2 h3 => hP4 _ k h1 (by have := a_add g21 g59; have := q0; have := a_add g13 g21; have := q4; have := a_add g15 g59; have := a_add g15 g22; omega) h3)) (mp3 := m11) (mp1 := m14) (mp4 := m15) (mp2 := m10)) (by decide) pd_Ljava_lang_String_II_CII_CI_Z rfl rfl rfl rfl (by decide) (fun v D' h => ?_)
         obtain ⟨rfl, rfl⟩ := h
         show W _ _ _ _ _ _ _ _ _ _ _ _ 349 _ [(vi 1)]
         refine W.ifN at_349 (n_eq (by decide)) ?_
         refine W.aload 17 at_352 rfl rfl ?_
         refine W.iconst (3) at_354 (by decide) ?_
         refine W.iload at_355 rfl ?_
         refine W.aload 5 at_357 rfl rfl ?_
         refine W.iload at_359 rfl ?_
         refine W.iload at_361 rfl ?_
         refine W.aload 6 at_363 rfl rfl ?_
         refine W.iload at_365 rfl ?_
         refine W.callS (as := [(vr a60), (vi 3), (vi (g21 + g59)), (vr a2), (vi g13), (vi g21), (vr a7), (vi g15)]) 0 [] at_367 (wq hw 83 rfl) (wq hw 84 rfl) (wq hw 85 rfl) (wq hw 86 rfl) (c58_at hw hs (hx1 := (by decide)) (hx2 := (by have := a_add g21 g59; have := a_add g13 g21; have := q4; have := a_add g15 g59; have := a_add g15 g22; omega)) (hx3 := (by have := a_add g13 g21; have := q4; have := a_add g21 g59; have := a_add g15 g59; omega)) (hx4 := (by have := a_add g13 g21; have := q4; have := a_add g21 g59; have := a_add g15 g59; have := a_add g15 g22; omega)) (hx5 := (by have := a_add g15 g22; have := q4; have := a_add g15 g59; have := a_add g21 g59; have := a_add g13 g21; omega)) (hx6 := (by have := a_add g21 g59; have := a_add g13 g21; have := q4; have := a_add g15 g59; have := a_add g15 g22; omega)) (hr0 := by have := a_add g21 g59; have := a_add g13 g21; have := q4; have := a_add g15 g59; have := a_add g15 g22; omega) (hr1 := by have := a_add g13 g21; have := q4; have := a_add g21 g59; have := a_add g15 g59; have := a_add g15 g22; omega) (hr2 := by have := a_add g21 g59; have := a_add g15 (g21 + g59); have := q4; have := a_add g21 (4 : Int32); have := a_add g13 g21; have := a_add g15 g22; have := a_add g15 g59; omega) (l1 := [g3, g4, g5, g6]) (hl_l1 := (len_q (k := 4) rfl (by decide))) (hb_l1 := (bl4 hg3 hg4 hg5 hg6)) (l2 := [g8, g9, g10, g11]) (hl_l2 := (len_q (k := 4) rfl (by decide))) (hb_l2 := (bl4 hg8 hg9 hg10 hg11)) (l3 := gl63) (hl_l3 := hgl63) (hA := (fun k h1 h2 => hP3 _ k (by decide) h1 h2)) (hB := (fun k h1 h2 h3 => hP4 _ k h1 (by have := a_add g21 g59; have := q0; have := a_add g13 g21; have := q4; have := a_add g15 g59; have := a_add g15 g22; omega) h3)) (mp3 := m11) (mp1 := m14) (mp4 := m15) (mp2 := m10)) (by decide) pd_Ljava_lang_String_II_CII_CI_Z rfl rfl rfl rfl (by decide) (fun v D' h => ?_)
         obtain ⟨rfl, rfl⟩ := h
         show W _ _ _ _ _ _ _ _ _ _ _ _ 370 _ [(vi 1)]
         refine W.ifN at_370 (n_eq (by decide)) ?_
         refine W.aload 17 at_373 rfl rfl ?_
         refine W.iconst (4) at_375 (by decide) ?_
         refine W.iload at_376 rfl ?_
         refine W.aload 5 at_378 rfl rfl ?_
         refine W.iload at_380 rfl ?_
         refine W.iload at_382 rfl ?_
         refine W.aload 6 at_384 rfl rfl ?_
         refine W.iload at_386 rfl ?_
         refine W.callS (as := [(vr a60), (vi 4), (vi (g21 + g59)), (vr a2), (vi g13), (vi g21), (vr a7), (vi g15)]) 0 [] at_388 (wq hw 83 rfl) (wq hw 84 rfl) (wq hw 85 rfl) (wq hw 86 rfl) (c58_at hw hs (hx1 := (by decide)) (hx2 := (by have := a_add g21 g59; have := a_add g13 g21; have := q4; have := a_add g15 g59; have := a_add g15 g22; omega)) (hx3 := (by have := a_add g13 g21; have := q4; have := a_add g21 g59; have := a_add g15 g59; omega)) (hx4 := (by have := a_add g13 g21; have := q4; have := a_add g21 g59; have := a_add g15 g59; have := a_add g15 g22; omega)) (hx5 := (by have := a_add g15 g22; have := q4; have := a_add g15 g59; have := a_add g21 g59; have := a_add g13 g21; omega)) (hx6 := (by have := a_add g21 g59; have := a_add g13 g21; have := q4; have := a_add g15 g59; have := a_add g15 g22; omega)) (hr0 := by have := a_add g21 g59; have := a_add g13 g21; have := q4; have := a_add g15 g59; have := a_add g15 g22; omega) (hr1 := by have := a_add g13 g21; have := q4; have := a_add g21 g59; have := a_add g15 g59; have := a_add g15 g22; omega) (hr2 := by have := a_add g21 g59; have := a_add g15 (g21 + g59); have := q4; have := a_add g21 (4 : Int32); have := a_add g13 g21; have := a_add g15 g22; have := a_add g15 g59; omega) (l1 := [g3, g4, g5, g6]) (hl_l1 := (len_q (k := 4) rfl (by decide))) (hb_l1 := (bl4 hg3 hg4 hg5 hg6)) (l2 := [g8, g9, g10, g11]) (hl_l2 := (len_q (k := 4) rfl (by decide))) (hb_l2 := (bl4 hg8 hg9 hg10 hg11)) (l3 := gl63) (hl_l3 := hgl63) (hA := (fun k h1 h2 => hP3 _ k (by decide) h1 h2)) (hB := (fun k h1 h2 h3 => hP4 _ k h1 (by have := a_add g21 g59; have := q0; have := a_add g13 g21; have := q4; have := a_add g15 g59; have := a_add g15 g22; omega) h3)) (mp3 := m11) (mp1 := m14) (mp4 := m15) (mp2 := m10)) (by decide) pd_Ljava_lang_String_II_CII_CI_Z rfl rfl rfl rfl (by decide) (fun v D' h => ?_)
         obtain ⟨rfl, rfl⟩ := h
         show W _ _ _ _ _ _ _ _ _ _ _ _ 391 _ [(vi 1)]
         refine W.ifN at_391 (n_eq (by decide)) ?_
         refine W.aload 17 at_394 rfl rfl ?_
         refine W.iconst (5) at_396 (by decide) ?_
         refine W.iload at_397 rfl ?_
         refine W.aload 5 at_399 rfl rfl ?_
         refine W.iload at_401 rfl ?_
         refine W.iload at_403 rfl ?_
         refine W.aload 6 at_405 rfl rfl ?_
         refine W.iload at_407 rfl ?_
         refine W.callS (as := [(vr a60), (vi 5), (vi (g21 + g59)), (vr a2), (vi g13), (vi g21), (vr a7), (vi g15)]) 0 [] at_409 (wq hw 83 rfl) (wq hw 84 rfl) (wq hw 85 rfl) (wq hw 86 rfl) (c58_at hw hs (hx1 := (by decide)) (hx2 := (by have := a_add g21 g59; have := a_add g13 g21; have := q4; have := a_add g15 g59; have := a_add g15 g22; omega)) (hx3 := (by have := a_add g13 g21; have := q4; have := a_add g21 g59; have := a_add g15 g59; omega)) (hx4 := (by have := a_add g13 g21; have := q4; have := a_add g21 g59; have := a_add g15 g59; have := a_add g15 g22; omega)) (hx5 := (by have := a_add g15 g22; have := q4; have := a_add g15 g59; have := a_add g21 g59; have := a_add g13 g21; omega)) (hx6 := (by have := a_add g21 g59; have := a_add g13 g21; have := q4; have := a_add g15 g59; have := a_add g15 g22; omega)) (hr0 := by have := a_add g21 g59; have := a_add g13 g21; have := q4; have := a_add g15 g59; have := a_add g15 g22; omega) (hr1 := by have := a_add g13 g21; have := q4; have := a_add g21 g59; have := a_add g15 g59; have := a_add g15 g22; omega) (hr2 := by have := a_add g21 g59; have := a_add g15 (g21 + g59); have := q4; have := a_add g21 (4 : Int32); have := a_add g13 g21; have := a_add g15 g22; have := a_add g15 g59; omega) (l1 := [g3, g4, g5, g6]) (hl_l1 := (len_q (k := 4) rfl (by decide))) (hb_l1 := (bl4 hg3 hg4 hg5 hg6)) (l2 := [g8, g9, g10, g11]) (hl_l2 := (len_q (k := 4) rfl (by decide))) (hb_l2 := (bl4 hg8 hg9 hg10 hg11)) (l3 := gl63) (hl_l3 := hgl63) (hA := (fun k h1 h2 => hP3 _ k (by decide) h1 h2)) (hB := (fun k h1 h2 h3 => hP4 _ k h1 (by have := a_add g21 g59; have := q0; have := a_add g13 g21; have := q4; have := a_add g15 g59; have := a_add g15 g22; omega) h3)) (mp3 := m11) (mp1 := m14) (mp4 := m15) (mp2 := m10)) (by decide) pd_Ljava_lang_String_II_CII_CI_Z rfl rfl rfl rfl (by decide) (fun v D' h => ?_)
         obtain ⟨rfl, rfl⟩ := h
         show W _ _ _ _ _ _ _ _ _ _ _ _ 412 _ [(vi 1)]
         refine W.ifN at_412 (n_eq (by decide)) ?_
         refine W.aload 17 at_415 rfl rfl ?_
         refine W.bipush (6) at_417 (by decide) ?_
         refine W.iload at_419 rfl ?_
         refine W.aload 5 at_421 rfl rfl ?_
         refine W.iload at_423 rfl ?_
         refine W.iload at_425 rfl ?_
         refine W.aload 6 at_427 rfl rfl ?_
         refine W.iload at_429 rfl ?_
         refine W.callS (as := [(vr a60), (vi 6), (vi (g21 + g59)), (vr a2), (vi g13), (vi g21), (vr a7), (vi g15)]) 0 [] at_431 (wq hw 83 rfl) (wq hw 84 rfl) (wq hw 85 rfl) (wq hw 86 rfl) (c58_at hw hs (hx1 := (by decide)) (hx2 := (by have := a_add g21 g59; have := a_add g13 g21; have := q4; have := a_add g15 g59; have := a_add g15 g22; omega)) (hx3 := (by have := a_add g13 g21; have := q4; have := a_add g21 g59; have := a_add g15 g59; omega)) (hx4 := (by have := a_add g13 g21; have := q4; have := a_add g21 g59; have := a_add g15 g59; have := a_add g15 g22; omega)) (hx5 := (by have := a_add g15 g22; have := q4; have := a_add g15 g59; have := a_add g21 g59; have := a_add g13 g21; omega)) (hx6 := (by have := a_add g21 g59; have := a_add g13 g21; have := q4; have := a_add g15 g59; have := a_add g15 g22; omega)) (hr0 := by have := a_add g21 g59; have := a_add g13 g21; have := q4; have := a_add g15 g59; have := a_add g15 g22; omega) (hr1 := by have := a_add g13 g21; have := q4; have := a_add g21 g59; have := a_add g15 g59; have := a_add g15 g22; omega) (hr2 := by have := a_add g21 g59; have := a_add g15 (g21 + g59); have := q4; have := a_add g21 (4 : Int32); have := a_add g13 g21; have := a_add g15 g22; have := a_add g15 g59; omega) (l1 := [g3, g4, g5, g6]) (hl_l1 := (len_q (k := 4) rfl (by decide))) (hb_l1 := (bl4 hg3 hg4 hg5 hg6)) (l2 := [g8, g9, g10, g11]) (hl_l2 := (len_q (k := 4) rfl (by decide))) (hb_l2 := (bl4 hg8 hg9 hg10 hg11)) (l3 := gl63) (hl_l3 := hgl63) (hA := (fun k h1 h2 => hP3 _ k (by decide) h1 h2)) (hB := (fun k h1 h2 h3 => hP4 _ k h1 (by have := a_add g21 g59; have := q0; have := a_add g13 g21; have := q4; have := a_add g15 g59; have := a_add g15 g22; omega) h3)) (mp3 := m11) (mp1 := m14) (mp4 := m15) (mp2 := m10)) (by decide) pd_Ljava_lang_String_II_CII_CI_Z rfl rfl rfl rfl (by decide) (fun v D' h => ?_)
         obtain ⟨rfl, rfl⟩ := h
         show W _ _ _ _ _ _ _ _ _ _ _ _ 434 _ [(vi 1)]
         refine W.ifN at_434 (n_eq (by decide)) ?_
         refine W.aload 17 at_437 rfl rfl ?_
         refine W.bipush (7) at_439 (by decide) ?_
         refine W.iload at_441 rfl ?_
         refine W.aload 5 at_443 rfl rfl ?_
         refine W.iload at_445 rfl ?_
         refine W.iload at_447 rfl ?_
         refine W.aload 6 at_449 rfl rfl ?_
         refine W.iload at_451 rfl ?_
         refine W.callS (as := [(vr a60), (vi 7), (vi (g21 + g59)), (vr a2), (vi g13), (vi g21), (vr a7), (vi g15)]) 0 [] at_453 (wq hw 83 rfl) (wq hw 84 rfl) (wq hw 85 rfl) (wq hw 86 rfl) (c58_at hw hs (hx1 := (by decide)) (hx2 := (by have := a_add g21 g59; have := a_add g13 g21; have := q4; have := a_add g15 g59; have := a_add g15 g22; omega)) (hx3 := (by have := a_add g13 g21; have := q4; have := a_add g21 g59; have := a_add g15 g59; omega)) (hx4 := (by have := a_add g13 g21; have := q4; have := a_add g21 g59; have := a_add g15 g59; have := a_add g15 g22; omega)) (hx5 := (by have := a_add g15 g22; have := q4; have := a_add g15 g59; have := a_add g21 g59; have := a_add g13 g21; omega)) (hx6 := (by have := a_add g21 g59; have := a_add g13 g21; have := q4; have := a_add g15 g59; have := a_add g15 g22; omega)) (hr0 := by have := a_add g21 g59; have := a_add g13 g21; have := q4; have := a_add g15 g59; have := a_add g15 g22; omega) (hr1 := by have := a_add g13 g21; have := q4; have := a_add g21 g59; have := a_add g15 g59; have := a_add g15 g22; omega) (hr2 := by have := a_add g21 g59; have := a_add g15 (g21 + g59); have := q4; have := a_add g21 (4 : Int32); have := a_add g13 g21; have := a_add g15 g22; have := a_add g15 g59; omega) (l1 := [g3, g4, g5, g6]) (hl_l1 := (len_q (k := 4) rfl (by decide))) (hb_l1 := (bl4 hg3 hg4 hg5 hg6)) (l2 := [g8, g9, g10, g11]) (hl_l2 := (len_q (k := 4) rfl (by decide))) (hb_l2 := (bl4 hg8 hg9 hg10 hg11)) (l3 := gl63) (hl_l3 := hgl63) (hA := (fun k h1 h2 => hP3 _ k (by decide) h1 h2)) (hB := (fun k h1 h2 h3 => hP4 _ k h1 (by have := a_add g21 g59; have := q0; have := a_add g13 g21; have := q4; have := a_add g15 g59; have := a_add g15 g22; omega) h3)) (mp3 := m11) (mp1 := m14) (mp4 := m15) (mp2 := m10)) (by decide) pd_Ljava_lang_String_II_CII_CI_Z rfl rfl rfl rfl (by decide) (fun v D' h => ?_)
         obtain ⟨rfl, rfl⟩ := h
         show W _ _ _ _ _ _ _ _ _ _ _ _ 456 _ [(vi 1)]
         refine W.ifN at_456 (n_eq (by decide)) ?_
         refine W.iconst (1) at_459 (by decide) ?_
         refine W.goto 464 at_460 (by decide) ?_
         exact W.ireturn at_464 rfl (Or.inr (Or.inl rfl)) (nw_bool (by decide)) (by decide) rfl
        refine W.aload 13 at_223 rfl rfl ?_
        refine W.aload 5 at_225 rfl rfl ?_
        refine W.iload at_227 rfl ?_
        refine W.iload at_229 rfl ?_
        refine W.front 3 (D' := (a25, true, oXmlElement (vr a32) (vr a26) (vr a28) (vr a30) (vi 1) .null .null .null) :: (a33, false, oString (vr a34) (vi 0)) :: (a34, false, ar "" .byte []) :: (a32, true, oArrayList (vi 0) (vr (og1 Z))) :: (a30, false, oString (vr a31) (vi 0)) :: (a31, false, ar "" .byte [(vi 101)]) :: (a28, false, oString (vr a29) (vi 0)) :: (a29, false, ar "" .byte [(vi 101)]) :: (a26, false, oString (vr a27) (vi 0)) :: (a27, false, ar "" .byte []) :: (a2, true, ar "[C" .char [(vi g3), (vi g4), (vi g5), (vi g6)]) :: (a7, true, ar "[C" .char [(vi g8), (vi g9), (vi g10), (vi g11)]) :: []) rfl rfl ?_
        refine W.callV (as := [(vr a2), (vi g13), (vi g21)]) 0 [] at_231 (wq hw 87 rfl) (wq hw 88 rfl) (wq hw 90 rfl) (wq hw 90 rfl) (wq hw 89 rfl) (wq hw 3 rfl) (wq hw 91 rfl) (Hp.exa m0) (c10_appendText hw hs (hx1 := (by have := a_add g13 g21; have := q4; omega)) (hx2 := (by have := a_add g13 g21; have := q4; omega)) (hr0 := by have := a_add g13 g21; have := q4; omega) (l1 := [g3, g4, g5, g6]) (hl_l1 := (len_q (k := 4) rfl (by decide))) (hb_l1 := (bl4 hg3 hg4 hg5 hg6)) (mp2 := m9)) (by decide) pd__CII_V rfl rfl rfl rfl (by decide) (fun v D' h => ?_)
        obtain ⟨a65, a66, h9, hl67, rfl, rfl⟩ := h
        have ih9 := t_le h9
        show W _ _ _ _ _ _ _ _ _ _ _ _ 234 _ []
        refine W.iload at_234 rfl ?_
        refine W.istore (ls' := #[iv z0, iv z1, iv z2, iv z3, iv z4, rv a2, rv a7, iv g13, iv g21, iv g15, iv g22, iv g18, iv g23, rv a25, rv a33, iv g21, iv 0, uu, uu]) at_236 rfl ?_
        refine W.iload at_238 rfl ?_
        refine W.if 258 at_240 (by decide) (fun h10 => ?_) (fun h10 => ?_)
        ·
         have ih10 := t_eq h10
         refine W.aload 13 at_258 rfl rfl ?_
         refine W.callV (as := []) 0 [] at_260 (wq hw 57 rfl) (wq hw 58 rfl) (wq hw 60 rfl) (wq hw 60 rfl) (wq hw 59 rfl) (wq hw 3 rfl) (wq hw 61 rfl) (Hp.exa m2) (c26_text hw hs (hx1 := (by have := q0; have := a_add (0 : Int32) g21; have := a_add g13 g21; have := q4; have := a_sub ((0 : Int32) + g21) g21; omega)) (hx2 := (by have := a_add g13 g21; have := q4; have := q0; have := a_add (0 : Int32) g21; have := a_sub ((0 : Int32) + g21) g21; omega)) (hr0 := by have := q0; have := a_add (0 : Int32) g21; have := a_add g13 g21; have := q4; have := a_sub ((0 : Int32) + g21) g21; omega) (l1 := (put (List.replicate g21.toInt.toNat (0 : Int32)) (0 : Int32).toInt.toNat [g3, g4, g5, g6] g13.toInt.toNat g21.toInt.toNat)) (hl_l1 := hl67) (mp1 := m2) (mp6 := m1) (mp10 := m0)) (by decide) pd__Ljava_lang_String_ rfl rfl rfl rfl (by decide) (fun v D' h => ?_)
         rcases h with ⟨a68, a69, h11, rfl, rfl⟩ | ⟨a70, a71, h12, h13, hl72, rfl, rfl⟩
         ·
          have ih11 := t_eq h11
          show W _ _ _ _ _ _ _ _ _ _ _ _ 263 _ [(vr a68)]
          refine W.astore (ls' := #[iv z0, iv z1, iv z2, iv z3, iv z4, rv a2, rv a7, iv g13, iv g21, iv g15, iv g22, iv g18, iv g23, rv a25, rv a33, iv g21, iv 0, rv a68, uu]) at_263 rfl rfl ?_
          refine W.front 1 (D' := (a68, true, oString (vr a69) (vi 0)) :: (a69, true, ar "[B" .byte (lm (put (List.replicate g21.toInt.toNat (0 : Int32)) (0 : Int32).toInt.toNat [g3, g4, g5, g6] g13.toInt.toNat g21.toInt.toNat))) :: (a66, true, ar "[B" .byte (lm (put (List.replicate g21.toInt.toNat (0 : Int32)) (0 : Int32).toInt.toNat [g3, g4, g5, g6] g13.toInt.toNat g21.toInt.toNat))) :: (a65, true, oStringBuilder (vr a66) (vi 0) (vi ((0 : Int32) + g21))) :: (a25, true, oXmlElement (vr a32) (vr a26) (vr a28) (vr a30) (vi 1) .null .null (vr a65)) :: (a33, false, oString (vr a34) (vi 0)) :: (a34, false, ar "" .byte []) :: (a32, true, oArrayList (vi 0) (vr (og1 Z))) :: (a30, false, oString (vr a31) (vi 0)) :: (a31, false, ar "" .byte [(vi 101)]) :: (a28, false, oString (vr a29) (vi 0)) :: (a29, false, ar "" .byte [(vi 101)]) :: (a26, false, oString (vr a27) (vi 0)) :: (a27, false, ar "" .byte []) :: (a2, true, ar "[C" .char [(vi g3), (vi g4), (vi g5), (vi g6)]) :: (a7, true, ar "[C" .char [(vi g8), (vi g9), (vi g10), (vi g11)]) :: []) rfl rfl ?_
          refine W.front 2 (D' := (a66, true, ar "[B" .byte (lm (put (List.replicate g21.toInt.toNat (0 : Int32)) (0 : Int32).toInt.toNat [g3, g4, g5, g6] g13.toInt.toNat g21.toInt.toNat))) :: (a68, true, oString (vr a69) (vi 0)) :: (a69, true, ar "[B" .byte (lm (put (List.replicate g21.toInt.toNat (0 : Int32)) (0 : Int32).toInt.toNat [g3, g4, g5, g6] g13.toInt.toNat g21.toInt.toNat))) :: (a65, true, oStringBuilder (vr a66) (vi 0) (vi ((0 : Int32) + g21))) :: (a25, true, oXmlElement (vr a32) (vr a26) (vr a28) (vr a30) (vi 1) .null .null (vr a65)) :: (a33, false, oString (vr a34) (vi 0)) :: (a34, false, ar "" .byte []) :: (a32, true, oArrayList (vi 0) (vr (og1 Z))) :: (a30, false, oString (vr a31) (vi 0)) :: (a31, false, ar "" .byte [(vi 101)]) :: (a28, false, oString (vr a29) (vi 0)) :: (a29, false, ar "" .byte [(vi 101)]) :: (a26, false, oString (vr a27) (vi 0)) :: (a27, false, ar "" .byte []) :: (a2, true, ar "[C" .char [(vi g3), (vi g4), (vi g5), (vi g6)]) :: (a7, true, ar "[C" .char [(vi g8), (vi g9), (vi g10), (vi g11)]) :: []) rfl rfl ?_
          refine W.front 3 (D' := (a65, true, oStringBuilder (vr a66) (vi 0) (vi ((0 : Int32) + g21))) :: (a66, true, ar "[B" .byte (lm (put (List.replicate g21.toInt.toNat (0 : Int32)) (0 : Int32).toInt.toNat [g3, g4, g5, g6] g13.toInt.toNat g21.toInt.toNat))) :: (a68, true, oString (vr a69) (vi 0)) :: (a69, true, ar "[B" .byte (lm (put (List.replicate g21.toInt.toNat (0 : Int32)) (0 : Int32).toInt.toNat [g3, g4, g5, g6] g13.toInt.toNat g21.toInt.toNat))) :: (a25, true, oXmlElement (vr a32) (vr a26) (vr a28) (vr a30) (vi 1) .null .null (vr a65)) :: (a33, false, oString (vr a34) (vi 0)) :: (a34, false, ar "" .byte []) :: (a32, true, oArrayList (vi 0) (vr (og1 Z))) :: (a30, false, oString (vr a31) (vi 0)) :: (a31, false, ar "" .byte [(vi 101)]) :: (a28, false, oString (vr a29) (vi 0)) :: (a29, false, ar "" .byte [(vi 101)]) :: (a26, false, oString (vr a27) (vi 0)) :: (a27, false, ar "" .byte []) :: (a2, true, ar "[C" .char [(vi g3), (vi g4), (vi g5), (vi g6)]) :: (a7, true, ar "[C" .char [(vi g8), (vi g9), (vi g10), (vi g11)]) :: []) rfl rfl ?_
          refine W.front 15 (D' := (a7, true, ar "[C" .char [(vi g8), (vi g9), (vi g10), (vi g11)]) :: (a65, true, oStringBuilder (vr a66) (vi 0) (vi ((0 : Int32) + g21))) :: (a66, true, ar "[B" .byte (lm (put (List.replicate g21.toInt.toNat (0 : Int32)) (0 : Int32).toInt.toNat [g3, g4, g5, g6] g13.toInt.toNat g21.toInt.toNat))) :: (a68, true, oString (vr a69) (vi 0)) :: (a69, true, ar "[B" .byte (lm (put (List.replicate g21.toInt.toNat (0 : Int32)) (0 : Int32).toInt.toNat [g3, g4, g5, g6] g13.toInt.toNat g21.toInt.toNat))) :: (a25, true, oXmlElement (vr a32) (vr a26) (vr a28) (vr a30) (vi 1) .null .null (vr a65)) :: (a33, false, oString (vr a34) (vi 0)) :: (a34, false, ar "" .byte []) :: (a32, true, oArrayList (vi 0) (vr (og1 Z))) :: (a30, false, oString (vr a31) (vi 0)) :: (a31, false, ar "" .byte [(vi 101)]) :: (a28, false, oString (vr a29) (vi 0)) :: (a29, false, ar "" .byte [(vi 101)]) :: (a26, false, oString (vr a27) (vi 0)) :: (a27, false, ar "" .byte []) :: (a2, true, ar "[C" .char [(vi g3), (vi g4), (vi g5), (vi g6)]) :: []) rfl rfl ?_
          refine W.front 15 (D' := (a2, true, ar "[C" .char [(vi g3), (vi g4), (vi g5), (vi g6)]) :: (a7, true, ar "[C" .char [(vi g8), (vi g9), (vi g10), (vi g11)]) :: (a65, true, oStringBuilder (vr a66) (vi 0) (vi ((0 : Int32) + g21))) :: (a66, true, ar "[B" .byte (lm (put (List.replicate g21.toInt.toNat (0 : Int32)) (0 : Int32).toInt.toNat [g3, g4, g5, g6] g13.toInt.toNat g21.toInt.toNat))) :: (a68, true, oString (vr a69) (vi 0)) :: (a69, true, ar "[B" .byte (lm (put (List.replicate g21.toInt.toNat (0 : Int32)) (0 : Int32).toInt.toNat [g3, g4, g5, g6] g13.toInt.toNat g21.toInt.toNat))) :: (a25, true, oXmlElement (vr a32) (vr a26) (vr a28) (vr a30) (vi 1) .null .null (vr a65)) :: (a33, false, oString (vr a34) (vi 0)) :: (a34, false, ar "" .byte []) :: (a32, true, oArrayList (vi 0) (vr (og1 Z))) :: (a30, false, oString (vr a31) (vi 0)) :: (a31, false, ar "" .byte [(vi 101)]) :: (a28, false, oString (vr a29) (vi 0)) :: (a29, false, ar "" .byte [(vi 101)]) :: (a26, false, oString (vr a27) (vi 0)) :: (a27, false, ar "" .byte []) :: []) rfl rfl ?_
          refine W.front 15 (D' := (a27, false, ar "" .byte []) :: (a2, true, ar "[C" .char [(vi g3), (vi g4), (vi g5), (vi g6)]) :: (a7, true, ar "[C" .char [(vi g8), (vi g9), (vi g10), (vi g11)]) :: (a65, true, oStringBuilder (vr a66) (vi 0) (vi ((0 : Int32) + g21))) :: (a66, true, ar "[B" .byte (lm (put (List.replicate g21.toInt.toNat (0 : Int32)) (0 : Int32).toInt.toNat [g3, g4, g5, g6] g13.toInt.toNat g21.toInt.toNat))) :: (a68, true, oString (vr a69) (vi 0)) :: (a69, true, ar "[B" .byte (lm (put (List.replicate g21.toInt.toNat (0 : Int32)) (0 : Int32).toInt.toNat [g3, g4, g5, g6] g13.toInt.toNat g21.toInt.toNat))) :: (a25, true, oXmlElement (vr a32) (vr a26) (vr a28) (vr a30) (vi 1) .null .null (vr a65)) :: (a33, false, oString (vr a34) (vi 0)) :: (a34, false, ar "" .byte []) :: (a32, true, oArrayList (vi 0) (vr (og1 Z))) :: (a30, false, oString (vr a31) (vi 0)) :: (a31, false, ar "" .byte [(vi 101)]) :: (a28, false, oString (vr a29) (vi 0)) :: (a29, false, ar "" .byte [(vi 101)]) :: (a26, false, oString (vr a27) (vi 0)) :: []) rfl rfl ?_
          refine W.front 15 (D' := (a26, false, oString (vr a27) (vi 0)) :: (a27, false, ar "" .byte []) :: (a2, true, ar "[C" .char [(vi g3), (vi g4), (vi g5), (vi g6)]) :: (a7, true, ar "[C" .char [(vi g8), (vi g9), (vi g10), (vi g11)]) :: (a65, true, oStringBuilder (vr a66) (vi 0) (vi ((0 : Int32) + g21))) :: (a66, true, ar "[B" .byte (lm (put (List.replicate g21.toInt.toNat (0 : Int32)) (0 : Int32).toInt.toNat [g3, g4, g5, g6] g13.toInt.toNat g21.toInt.toNat))) :: (a68, true, oString (vr a69) (vi 0)) :: (a69, true, ar "[B" .byte (lm (put (List.replicate g21.toInt.toNat (0 : Int32)) (0 : Int32).toInt.toNat [g3, g4, g5, g6] g13.toInt.toNat g21.toInt.toNat))) :: (a25, true, oXmlElement (vr a32) (vr a26) (vr a28) (vr a30) (vi 1) .null .null (vr a65)) :: (a33, false, oString (vr a34) (vi 0)) :: (a34, false, ar "" .byte []) :: (a32, true, oArrayList (vi 0) (vr (og1 Z))) :: (a30, false, oString (vr a31) (vi 0)) :: (a31, false, ar "" .byte [(vi 101)]) :: (a28, false, oString (vr a29) (vi 0)) :: (a29, false, ar "" .byte [(vi 101)]) :: []) rfl rfl ?_
          refine W.front 15 (D' := (a29, false, ar "" .byte [(vi 101)]) :: (a26, false, oString (vr a27) (vi 0)) :: (a27, false, ar "" .byte []) :: (a2, true, ar "[C" .char [(vi g3), (vi g4), (vi g5), (vi g6)]) :: (a7, true, ar "[C" .char [(vi g8), (vi g9), (vi g10), (vi g11)]) :: (a65, true, oStringBuilder (vr a66) (vi 0) (vi ((0 : Int32) + g21))) :: (a66, true, ar "[B" .byte (lm (put (List.replicate g21.toInt.toNat (0 : Int32)) (0 : Int32).toInt.toNat [g3, g4, g5, g6] g13.toInt.toNat g21.toInt.toNat))) :: (a68, true, oString (vr a69) (vi 0)) :: (a69, true, ar "[B" .byte (lm (put (List.replicate g21.toInt.toNat (0 : Int32)) (0 : Int32).toInt.toNat [g3, g4, g5, g6] g13.toInt.toNat g21.toInt.toNat))) :: (a25, true, oXmlElement (vr a32) (vr a26) (vr a28) (vr a30) (vi 1) .null .null (vr a65)) :: (a33, false, oString (vr a34) (vi 0)) :: (a34, false, ar "" .byte []) :: (a32, true, oArrayList (vi 0) (vr (og1 Z))) :: (a30, false, oString (vr a31) (vi 0)) :: (a31, false, ar "" .byte [(vi 101)]) :: (a28, false, oString (vr a29) (vi 0)) :: []) rfl rfl ?_
          refine W.front 15 (D' := (a28, false, oString (vr a29) (vi 0)) :: (a29, false, ar "" .byte [(vi 101)]) :: (a26, false, oString (vr a27) (vi 0)) :: (a27, false, ar "" .byte []) :: (a2, true, ar "[C" .char [(vi g3), (vi g4), (vi g5), (vi g6)]) :: (a7, true, ar "[C" .char [(vi g8), (vi g9), (vi g10), (vi g11)]) :: (a65, true, oStringBuilder (vr a66) (vi 0) (vi ((0 : Int32) + g21))) :: (a66, true, ar "[B" .byte (lm (put (List.replicate g21.toInt.toNat (0 : Int32)) (0 : Int32).toInt.toNat [g3, g4, g5, g6] g13.toInt.toNat g21.toInt.toNat))) :: (a68, true, oString (vr a69) (vi 0)) :: (a69, true, ar "[B" .byte (lm (put (List.replicate g21.toInt.toNat (0 : Int32)) (0 : Int32).toInt.toNat [g3, g4, g5, g6] g13.toInt.toNat g21.toInt.toNat))) :: (a25, true, oXmlElement (vr a32) (vr a26) (vr a28) (vr a30) (vi 1) .null .null (vr a65)) :: (a33, false, oString (vr a34) (vi 0)) :: (a34, false, ar "" .byte []) :: (a32, true, oArrayList (vi 0) (vr (og1 Z))) :: (a30, false, oString (vr a31) (vi 0)) :: (a31, false, ar "" .byte [(vi 101)]) :: []) rfl rfl ?_
          refine W.front 15 (D' := (a31, false, ar "" .byte [(vi 101)]) :: (a28, false, oString (vr a29) (vi 0)) :: (a29, false, ar "" .byte [(vi 101)]) :: (a26, false, oString (vr a27) (vi 0)) :: (a27, false, ar "" .byte []) :: (a2, true, ar "[C" .char [(vi g3), (vi g4), (vi g5), (vi g6)]) :: (a7, true, ar "[C" .char [(vi g8), (vi g9), (vi g10), (vi g11)]) :: (a65, true, oStringBuilder (vr a66) (vi 0) (vi ((0 : Int32) + g21))) :: (a66, true, ar "[B" .byte (lm (put (List.replicate g21.toInt.toNat (0 : Int32)) (0 : Int32).toInt.toNat [g3, g4, g5, g6] g13.toInt.toNat g21.toInt.toNat))) :: (a68, true, oString (vr a69) (vi 0)) :: (a69, true, ar "[B" .byte (lm (put (List.replicate g21.toInt.toNat (0 : Int32)) (0 : Int32).toInt.toNat [g3, g4, g5, g6] g13.toInt.toNat g21.toInt.toNat))) :: (a25, true, oXmlElement (vr a32) (vr a26) (vr a28) (vr a30) (vi 1) .null .null (vr a65)) :: (a33, false, oString (vr a34) (vi 0)) :: (a34, false, ar "" .byte []) :: (a32, true, oArrayList (vi 0) (vr (og1 Z))) :: (a30, false, oString (vr a31) (vi 0)) :: []) rfl rfl ?_
          refine W.front 15 (D' := (a30, false, oString (vr a31) (vi 0)) :: (a31, false, ar "" .byte [(vi 101)]) :: (a28, false, oString (vr a29) (vi 0)) :: (a29, false, ar "" .byte [(vi 101)]) :: (a26, false, oString (vr a27) (vi 0)) :: (a27, false, ar "" .byte []) :: (a2, true, ar "[C" .char [(vi g3), (vi g4), (vi g5), (vi g6)]) :: (a7, true, ar "[C" .char [(vi g8), (vi g9), (vi g10), (vi g11)]) :: (a65, true, oStringBuilder (vr a66) (vi 0) (vi ((0 : Int32) + g21))) :: (a66, true, ar "[B" .byte (lm (put (List.replicate g21.toInt.toNat (0 : Int32)) (0 : Int32).toInt.toNat [g3, g4, g5, g6] g13.toInt.toNat g21.toInt.toNat))) :: (a68, true, oString (vr a69) (vi 0)) :: (a69, true, ar "[B" .byte (lm (put (List.replicate g21.toInt.toNat (0 : Int32)) (0 : Int32).toInt.toNat [g3, g4, g5, g6] g13.toInt.toNat g21.toInt.toNat))) :: (a25, true, oXmlElement (vr a32) (vr a26) (vr a28) (vr a30) (vi 1) .null .null (vr a65)) :: (a33, false, oString (vr a34) (vi 0)) :: (a34, false, ar "" .byte []) :: (a32, true, oArrayList (vi 0) (vr (og1 Z))) :: []) rfl rfl ?_
          refine W.front 12 (D' := (a25, true, oXmlElement (vr a32) (vr a26) (vr a28) (vr a30) (vi 1) .null .null (vr a65)) :: (a30, false, oString (vr a31) (vi 0)) :: (a31, false, ar "" .byte [(vi 101)]) :: (a28, false, oString (vr a29) (vi 0)) :: (a29, false, ar "" .byte [(vi 101)]) :: (a26, false, oString (vr a27) (vi 0)) :: (a27, false, ar "" .byte []) :: (a2, true, ar "[C" .char [(vi g3), (vi g4), (vi g5), (vi g6)]) :: (a7, true, ar "[C" .char [(vi g8), (vi g9), (vi g10), (vi g11)]) :: (a65, true, oStringBuilder (vr a66) (vi 0) (vi ((0 : Int32) + g21))) :: (a66, true, ar "[B" .byte (lm (put (List.replicate g21.toInt.toNat (0 : Int32)) (0 : Int32).toInt.toNat [g3, g4, g5, g6] g13.toInt.toNat g21.toInt.toNat))) :: (a68, true, oString (vr a69) (vi 0)) :: (a69, true, ar "[B" .byte (lm (put (List.replicate g21.toInt.toNat (0 : Int32)) (0 : Int32).toInt.toNat [g3, g4, g5, g6] g13.toInt.toNat g21.toInt.toNat))) :: (a33, false, oString (vr a34) (vi 0)) :: (a34, false, ar "" .byte []) :: (a32, true, oArrayList (vi 0) (vr (og1 Z))) :: []) rfl rfl ?_
          refine W.front 15 (D' := (a32, true, oArrayList (vi 0) (vr (og1 Z))) :: (a25, true, oXmlElement (vr a32) (vr a26) (vr a28) (vr a30) (vi 1) .null .null (vr a65)) :: (a30, false, oString (vr a31) (vi 0)) :: (a31, false, ar "" .byte [(vi 101)]) :: (a28, false, oString (vr a29) (vi 0)) :: (a29, false, ar "" .byte [(vi 101)]) :: (a26, false, oString (vr a27) (vi 0)) :: (a27, false, ar "" .byte []) :: (a2, true, ar "[C" .char [(vi g3), (vi g4), (vi g5), (vi g6)]) :: (a7, true, ar "[C" .char [(vi g8), (vi g9), (vi g10), (vi g11)]) :: (a65, true, oStringBuilder (vr a66) (vi 0) (vi ((0 : Int32) + g21))) :: (a66, true, ar "[B" .byte (lm (put (List.replicate g21.toInt.toNat (0 : Int32)) (0 : Int32).toInt.toNat [g3, g4, g5, g6] g13.toInt.toNat g21.toInt.toNat))) :: (a68, true, oString (vr a69) (vi 0)) :: (a69, true, ar "[B" .byte (lm (put (List.replicate g21.toInt.toNat (0 : Int32)) (0 : Int32).toInt.toNat [g3, g4, g5, g6] g13.toInt.toNat g21.toInt.toNat))) :: (a33, false, oString (vr a34) (vi 0)) :: (a34, false, ar "" .byte []) :: []) rfl rfl ?_
          refine W.front 15 (D' := (a34, false, ar "" .byte []) :: (a32, true, oArrayList (vi 0) (vr (og1 Z))) :: (a25, true, oXmlElement (vr a32) (vr a26) (vr a28) (vr a30) (vi 1) .null .null (vr a65)) :: (a30, false, oString (vr a31) (vi 0)) :: (a31, false, ar "" .byte [(vi 101)]) :: (a28, false, oString (vr a29) (vi 0)) :: (a29, false, ar "" .byte [(vi 101)]) :: (a26, false, oString (vr a27) (vi 0)) :: (a27, false, ar "" .byte []) :: (a2, true, ar "[C" .char [(vi g3), (vi g4), (vi g5), (vi g6)]) :: (a7, true, ar "[C" .char [(vi g8), (vi g9), (vi g10), (vi g11)]) :: (a65, true, oStringBuilder (vr a66) (vi 0) (vi ((0 : Int32) + g21))) :: (a66, true, ar "[B" .byte (lm (put (List.replicate g21.toInt.toNat (0 : Int32)) (0 : Int32).toInt.toNat [g3, g4, g5, g6] g13.toInt.toNat g21.toInt.toNat))) :: (a68, true, oString (vr a69) (vi 0)) :: (a69, true, ar "[B" .byte (lm (put (List.replicate g21.toInt.toNat (0 : Int32)) (0 : Int32).toInt.toNat [g3, g4, g5, g6] g13.toInt.toNat g21.toInt.toNat))) :: (a33, false, oString (vr a34) (vi 0)) :: []) rfl rfl ?_
          refine W.front 15 (D' := (a33, false, oString (vr a34) (vi 0)) :: (a34, false, ar "" .byte []) :: (a32, true, oArrayList (vi 0) (vr (og1 Z))) :: (a25, true, oXmlElement (vr a32) (vr a26) (vr a28) (vr a30) (vi 1) .null .null (vr a65)) :: (a30, false, oString (vr a31) (vi 0)) :: (a31, false, ar "" .byte [(vi 101)]) :: (a28, false, oString (vr a29) (vi 0)) :: (a29, false, ar "" .byte [(vi 101)]) :: (a26, false, oString (vr a27) (vi 0)) :: (a27, false, ar "" .byte []) :: (a2, true, ar "[C" .char [(vi g3), (vi g4), (vi g5), (vi g6)]) :: (a7, true, ar "[C" .char [(vi g8), (vi g9), (vi g10), (vi g11)]) :: (a65, true, oStringBuilder (vr a66) (vi 0) (vi ((0 : Int32) + g21))) :: (a66, true, ar "[B" .byte (lm (put (List.replicate g21.toInt.toNat (0 : Int32)) (0 : Int32).toInt.toNat [g3, g4, g5, g6] g13.toInt.toNat g21.toInt.toNat))) :: (a68, true, oString (vr a69) (vi 0)) :: (a69, true, ar "[B" .byte (lm (put (List.replicate g21.toInt.toNat (0 : Int32)) (0 : Int32).toInt.toNat [g3, g4, g5, g6] g13.toInt.toNat g21.toInt.toNat))) :: []) rfl rfl ?_
          exact W.mono (by decide) (by decide) (K64 a65 a66 g21 (put (List.replicate g21.toInt.toNat (0 : Int32)) (0 : Int32).toInt.toNat [g3, g4, g5, g6] g13.toInt.toNat g21.toInt.toNat) ((0 : Int32) + g21) (0 : Int32) a68 a69 g21 (put (List.replicate g21.toInt.toNat (0 : Int32)) (0 : Int32).toInt.toNat [g3, g4, g5, g6] g13.toInt.toNat g21.toInt.toNat) (by have := a_add g13 g21; have := q4; have := q0; have := a_add (0 : Int32) g21; have := a_sub ((0 : Int32) + g21) g21; omega) hl67 (by have := q0; have := a_add (0 : Int32) g21; have := a_add g13 g21; have := q4; have := a_sub ((0 : Int32) + g21) g21; omega) (by decide) (by have := a_add g13 g21; have := q4; have := q0; have := a_add (0 : Int32) g21; have := a_sub ((0 : Int32) + g21) g21; omega) hl67 (by have := q0; have := a_add g21 (0 : Int32); have := q4; have := a_add g15 (0 : Int32); have := a_add g13 g21; have := a_add g15 g22; have := a_add (0 : Int32) g21; have := a_sub ((0 : Int32) + g21) g21; omega) (by have := q0; have := a_add g21 (0 : Int32); have := q4; have := a_add g15 (0 : Int32); have := a_add g13 g21; have := a_add g15 g22; have := a_add (0 : Int32) g21; have := a_sub ((0 : Int32) + g21) g21; omega) (by intro i k h1 h2 h3; have := q0; have := a_add g21 (0 : Int32); have := q4; have := a_add g15 (0 : Int32); have := a_add g13 g21; have := a_add g15 g22; have := a_add (0 : Int32) g21; have := a_sub ((0 : Int32) + g21) g21; rw [sel_put_in (k := k) (len_rep (z := g21) (by omega)) (len_q (k := 4) (z := (4 : Int32)) rfl (by decide)) (by omega), z_b255 (sel_b (bl4 hg3 hg4 hg5 hg6) (by decide) k)]) (by intro i k h1 h2 h3; exfalso; have := q0; have := a_add g21 (0 : Int32); have := q4; have := a_add g15 (0 : Int32); have := a_add g13 g21; have := a_add g15 g22; have := a_add (0 : Int32) g21; have := a_sub ((0 : Int32) + g21) g21; omega))
         ·
          exact absurd h12 (Classical.not_not.mpr (y_eq (by have := q0; have := a_add (0 : Int32) g21; have := a_add g13 g21; have := q4; have := a_sub ((0 : Int32) + g21) g21; omega)))
        ·
         have ih10 := f_eq h10
         refine W.aload 13 at_243 rfl rfl ?_
         refine W.aload 6 at_245 rfl rfl ?_
         refine W.iload at_247 rfl ?_
         refine W.iload at_249 rfl ?_
         refine W.front 1 (D' := (a65, true, oStringBuilder (vr a66) (vi 0) (vi ((0 : Int32) + g21))) :: (a66, true, ar "[B" .byte (lm (put (List.replicate g21.toInt.toNat (0 : Int32)) (0 : Int32).toInt.toNat [g3, g4, g5, g6] g13.toInt.toNat g21.toInt.toNat))) :: (a25, true, oXmlElement (vr a32) (vr a26) (vr a28) (vr a30) (vi 1) .null .null (vr a65)) :: (a33, false, oString (vr a34) (vi 0)) :: (a34, false, ar "" .byte []) :: (a32, true, oArrayList (vi 0) (vr (og1 Z))) :: (a30, false, oString (vr a31) (vi 0)) :: (a31, false, ar "" .byte [(vi 101)]) :: (a28, false, oString (vr a29) (vi 0)) :: (a29, false, ar "" .byte [(vi 101)]) :: (a26, false, oString (vr a27) (vi 0)) :: (a27, false, ar "" .byte []) :: (a2, true, ar "[C" .char [(vi g3), (vi g4), (vi g5), (vi g6)]) :: (a7, true, ar "[C" .char [(vi g8), (vi g9), (vi g10), (vi g11)]) :: []) rfl rfl ?_
         refine W.callV (as := [(vr a7), (vi g15), (vi g22)]) 0 [] at_251 (wq hw 87 rfl) (wq hw 88 rfl) (wq hw 90 rfl) (wq hw 90 rfl) (wq hw 89 rfl) (wq hw 3 rfl) (wq hw 91 rfl) (Hp.exa m2) (c43_appendText hw hs (hx1 := (by have := a_add g15 g22; have := q4; omega)) (hx2 := (by have := a_add g15 g22; have := q4; omega)) (hx3 := (by have := q0; have := a_add (0 : Int32) g21; have := a_add g13 g21; have := q4; have := a_sub ((0 : Int32) + g21) g21; omega)) (hx4 := (by have := a_add g13 g21; have := q4; have := q0; have := a_add (0 : Int32) g21; have := a_sub ((0 : Int32) + g21) g21; omega)) (hr0 := by have := a_add g15 g22; have := q4; omega) (hr1 := by have := q0; have := a_add (0 : Int32) g21; have := a_add g13 g21; have := q4; have := a_sub ((0 : Int32) + g21) g21; omega) (l1 := [g8, g9, g10, g11]) (hl_l1 := (len_q (k := 4) rfl (by decide))) (hb_l1 := (bl4 hg8 hg9 hg10 hg11)) (l2 := (put (List.replicate g21.toInt.toNat (0 : Int32)) (0 : Int32).toInt.toNat [g3, g4, g5, g6] g13.toInt.toNat g21.toInt.toNat)) (hl_l2 := hl67) (mp1 := m0) (mp2 := m11)) (by decide) pd__CII_V rfl rfl rfl rfl (by decide) (fun v D' h => ?_)
         rcases h with ⟨h14, hl73, rfl, rfl⟩ | ⟨a74, h15, h16, h17, hl75, rfl, rfl⟩ | ⟨a76, h18, h19, h20, hl77, rfl, rfl⟩
         ·
          have ih14 := t_le h14
          show W _ _ _ _ _ _ _ _ _ _ _ _ 254 _ []
          refine W.iload at_254 rfl ?_
          refine W.istore (ls' := #[iv z0, iv z1, iv z2, iv z3, iv z4, rv a2, rv a7, iv g13, iv g21, iv g15, iv g22, iv g18, iv g23, rv a25, rv a33, iv g21, iv g22, uu, uu]) at_256 rfl ?_
          refine W.aload 13 at_258 rfl rfl ?_
          refine W.callV (as := []) 0 [] at_260 (wq hw 57 rfl) (wq hw 58 rfl) (wq hw 60 rfl) (wq hw 60 rfl) (wq hw 59 rfl) (wq hw 3 rfl) (wq hw 61 rfl) (Hp.exa m2) (c26_text hw hs (hx1 := (by have := q0; have := a_add (0 : Int32) g21; have := a_add ((0 : Int32) + g21) g22; have := a_add g13 g21; have := q4; have := a_add g15 g22; have := a_sub ((0 : Int32) + g21) g21; have := a_sub (((0 : Int32) + g21) + g22) g21; omega)) (hx2 := (by have := a_add g13 g21; have := q4; have := q0; have := a_add (0 : Int32) g21; have := a_sub ((0 : Int32) + g21) g21; have := a_add ((0 : Int32) + g21) g22; have := a_sub (((0 : Int32) + g21) + g22) g21; have := a_add g15 g22; omega)) (hr0 := by have := q0; have := a_add (0 : Int32) g21; have := a_add ((0 : Int32) + g21) g22; have := a_add g13 g21; have := q4; have := a_add g15 g22; have := a_sub ((0 : Int32) + g21) g21; have := a_sub (((0 : Int32) + g21) + g22) g21; omega) (l1 := (put (put (List.replicate g21.toInt.toNat (0 : Int32)) (0 : Int32).toInt.toNat [g3, g4, g5, g6] g13.toInt.toNat g21.toInt.toNat) ((0 : Int32) + g21).toInt.toNat [g8, g9, g10, g11] g15.toInt.toNat g22.toInt.toNat)) (hl_l1 := hl73) (mp1 := m2) (mp6 := m1) (mp10 := m0)) (by decide) pd__Ljava_lang_String_ rfl rfl rfl rfl (by decide) (fun v D' h => ?_)
          rcases h with ⟨a78, a79, h21, rfl, rfl⟩ | ⟨a80, a81, h22, h23, hl82, rfl, rfl⟩
          ·
           have ih21 := t_eq h21
           show W _ _ _ _ _ _ _ _ _ _ _ _ 263 _ [(vr a78)]
           refine W.astore (ls' := #[iv z0, iv z1, iv z2, iv z3, iv z4, rv a2, rv a7, iv g13, iv g21, iv g15, iv g22, iv g18, iv g23, rv a25, rv a33, iv g21, iv g22, rv a78, uu]) at_263 rfl rfl ?_
           refine W.front 1 (D' := (a78, true, oString (vr a79) (vi 0)) :: (a79, true, ar "[B" .byte (lm (put (put (List.replicate g21.toInt.toNat (0 : Int32)) (0 : Int32).toInt.toNat [g3, g4, g5, g6] g13.toInt.toNat g21.toInt.toNat) ((0 : Int32) + g21).toInt.toNat [g8, g9, g10, g11] g15.toInt.toNat g22.toInt.toNat))) :: (a66, true, ar "[B" .byte (lm (put (put (List.replicate g21.toInt.toNat (0 : Int32)) (0 : Int32).toInt.toNat [g3, g4, g5, g6] g13.toInt.toNat g21.toInt.toNat) ((0 : Int32) + g21).toInt.toNat [g8, g9, g10, g11] g15.toInt.toNat g22.toInt.toNat))) :: (a65, true, oStringBuilder (vr a66) (vi 0) (vi (((0 : Int32) + g21) + g22))) :: (a25, true, oXmlElement (vr a32) (vr a26) (vr a28) (vr a30) (vi 1) .null .null (vr a65)) :: (a33, false, oString (vr a34) (vi 0)) :: (a34, false, ar "" .byte []) :: (a32, true, oArrayList (vi 0) (vr (og1 Z))) :: (a30, false, oString (vr a31) (vi 0)) :: (a31, false, ar "" .byte [(vi 101)]) :: (a28, false, oString (vr a29) (vi 0)) :: (a29, false, ar "" .byte [(vi 101)]) :: (a26, false, oString (vr a27) (vi 0)) :: (a27, false, ar "" .byte []) :: (a2, true, ar "[C" .char [(vi g3), (vi g4), (vi g5), (vi g6)]) :: (a7, true, ar "[C" .char [(vi g8), (vi g9), (vi g10), (vi g11)]) :: []) rfl rfl ?_
           refine W.front 2 (D' := (a66, true, ar "[B" .byte (lm (put (put (List.replicate g21.toInt.toNat (0 : Int32)) (0 : Int32).toInt.toNat [g3, g4, g5, g6] g13.toInt.toNat g21.toInt.toNat) ((0 : Int32) + g21).toInt.toNat [g8, g9, g10, g11] g15.toInt.toNat g22.toInt.toNat))) :: (a78, true, oString (vr a79) (vi 0)) :: (a79, true, ar "[B" .byte (lm (put (put (List.replicate g21.toInt.toNat (0 : Int32)) (0 : Int32).toInt.toNat [g3, g4, g5, g6] g13.toInt.toNat g21.toInt.toNat) ((0 : Int32) + g21).toInt.toNat [g8, g9, g10, g11] g15.toInt.toNat g22.toInt.toNat))) :: (a65, true, oStringBuilder (vr a66) (vi 0) (vi (((0 : Int32) + g21) + g22))) :: (a25, true, oXmlElement (vr a32) (vr a26) (vr a28) (vr a30) (vi 1) .null .null (vr a65)) :: (a33, false, oString (vr a34) (vi 0)) :: (a34, false, ar "" .byte []) :: (a32, true, oArrayList (vi 0) (vr (og1 Z))) :: (a30, false, oString (vr a31) (vi 0)) :: (a31, false, ar "" .byte [(vi 101)]) :: (a28, false, oString (vr a29) (vi 0)) :: (a29, false, ar "" .byte [(vi 101)]) :: (a26, false, oString (vr a27) (vi 0)) :: (a27, false, ar "" .byte []) :: (a2, true, ar "[C" .char [(vi g3), (vi g4), (vi g5), (vi g6)]) :: (a7, true, ar "[C" .char [(vi g8), (vi g9), (vi g10), (vi g11)]) :: []) rfl rfl ?_
           refine W.front 3 (D' := (a65, true, oStringBuilder (vr a66) (vi 0) (vi (((0 : Int32) + g21) + g22))) :: (a66, true, ar "[B" .byte (lm (put (put (List.replicate g21.toInt.toNat (0 : Int32)) (0 : Int32).toInt.toNat [g3, g4, g5, g6] g13.toInt.toNat g21.toInt.toNat) ((0 : Int32) + g21).toInt.toNat [g8, g9, g10, g11] g15.toInt.toNat g22.toInt.toNat))) :: (a78, true, oString (vr a79) (vi 0)) :: (a79, true, ar "[B" .byte (lm (put (put (List.replicate g21.toInt.toNat (0 : Int32)) (0 : Int32).toInt.toNat [g3, g4, g5, g6] g13.toInt.toNat g21.toInt.toNat) ((0 : Int32) + g21).toInt.toNat [g8, g9, g10, g11] g15.toInt.toNat g22.toInt.toNat))) :: (a25, true, oXmlElement (vr a32) (vr a26) (vr a28) (vr a30) (vi 1) .null .null (vr a65)) :: (a33, false, oString (vr a34) (vi 0)) :: (a34, false, ar "" .byte []) :: (a32, true, oArrayList (vi 0) (vr (og1 Z))) :: (a30, false, oString (vr a31) (vi 0)) :: (a31, false, ar "" .byte [(vi 101)]) :: (a28, false, oString (vr a29) (vi 0)) :: (a29, false, ar "" .byte [(vi 101)]) :: (a26, false, oString (vr a27) (vi 0)) :: (a27, false, ar "" .byte []) :: (a2, true, ar "[C" .char [(vi g3), (vi g4), (vi g5), (vi g6)]) :: (a7, true, ar "[C" .char [(vi g8), (vi g9), (vi g10), (vi g11)]) :: []) rfl rfl ?_
           refine W.front 15 (D' := (a7, true, ar "[C" .char [(vi g8), (vi g9), (vi g10), (vi g11)]) :: (a65, true, oStringBuilder (vr a66) (vi 0) (vi (((0 : Int32) + g21) + g22))) :: (a66, true, ar "[B" .byte (lm (put (put (List.replicate g21.toInt.toNat (0 : Int32)) (0 : Int32).toInt.toNat [g3, g4, g5, g6] g13.toInt.toNat g21.toInt.toNat) ((0 : Int32) + g21).toInt.toNat [g8, g9, g10, g11] g15.toInt.toNat g22.toInt.toNat))) :: (a78, true, oString (vr a79) (vi 0)) :: (a79, true, ar "[B" .byte (lm (put (put (List.replicate g21.toInt.toNat (0 : Int32)) (0 : Int32).toInt.toNat [g3, g4, g5, g6] g13.toInt.toNat g21.toInt.toNat) ((0 : Int32) + g21).toInt.toNat [g8, g9, g10, g11] g15.toInt.toNat g22.toInt.toNat))) :: (a25, true, oXmlElement (vr a32) (vr a26) (vr a28) (vr a30) (vi 1) .null .null (vr a65)) :: (a33, false, oString (vr a34) (vi 0)) :: (a34, false, ar "" .byte []) :: (a32, true, oArrayList (vi 0) (vr (og1 Z))) :: (a30, false, oString (vr a31) (vi 0)) :: (a31, false, ar "" .byte [(vi 101)]) :: (a28, false, oString (vr a29) (vi 0)) :: (a29, false, ar "" .byte [(vi 101)]) :: (a26, false, oString (vr a27) (vi 0)) :: (a27, false, ar "" .byte []) :: (a2, true, ar "[C" .char [(vi g3), (vi g4), (vi g5), (vi g6)]) :: []) rfl rfl ?_
           refine W.front 15 (D' := (a2, true, ar "[C" .char [(vi g3), (vi g4), (vi g5), (vi g6)]) :: (a7, true, ar "[C" .char [(vi g8), (vi g9), (vi g10), (vi g11)]) :: (a65, true, oStringBuilder (vr a66) (vi 0) (vi (((0 : Int32) + g21) + g22))) :: (a66, true, ar "[B" .byte (lm (put (put (List.replicate g21.toInt.toNat (0 : Int32)) (0 : Int32).toInt.toNat [g3, g4, g5, g6] g13.toInt.toNat g21.toInt.toNat) ((0 : Int32) + g21).toInt.toNat [g8, g9, g10, g11] g15.toInt.toNat g22.toInt.toNat))) :: (a78, true, oString (vr a79) (vi 0)) :: (a79, true, ar "[B" .byte (lm (put (put (List.replicate g21.toInt.toNat (0 : Int32)) (0 : Int32).toInt.toNat [g3, g4, g5, g6] g13.toInt.toNat g21.toInt.toNat) ((0 : Int32) + g21).toInt.toNat [g8, g9, g10, g11] g15.toInt.toNat g22.toInt.toNat))) :: (a25, true, oXmlElement (vr a32) (vr a26) (vr a28) (vr a30) (vi 1) .null .null (vr a65)) :: (a33, false, oString (vr a34) (vi 0)) :: (a34, false, ar "" .byte []) :: (a32, true, oArrayList (vi 0) (vr (og1 Z))) :: (a30, false, oString (vr a31) (vi 0)) :: (a31, false, ar "" .byte [(vi 101)]) :: (a28, false, oString (vr a29) (vi 0)) :: (a29, false, ar "" .byte [(vi 101)]) :: (a26, false, oString (vr a27) (vi 0)) :: (a27, false, ar "" .byte []) :: []) rfl rfl ?_
           refine W.front 15 (D' := (a27, false, ar "" .byte []) :: (a2, true, ar "[C" .char [(vi g3), (vi g4), (vi g5), (vi g6)]) :: (a7, true, ar "[C" .char [(vi g8), (vi g9), (vi g10), (vi g11)]) :: (a65, true, oStringBuilder (vr a66) (vi 0) (vi (((0 : Int32) + g21) + g22))) :: (a66, true, ar "[B" .byte (lm (put (put (List.replicate g21.toInt.toNat (0 : Int32)) (0 : Int32).toInt.toNat [g3, g4, g5, g6] g13.toInt.toNat g21.toInt.toNat) ((0 : Int32) + g21).toInt.toNat [g8, g9, g10, g11] g15.toInt.toNat g22.toInt.toNat))) :: (a78, true, oString (vr a79) (vi 0)) :: (a79, true, ar "[B" .byte (lm (put (put (List.replicate g21.toInt.toNat (0 : Int32)) (0 : Int32).toInt.toNat [g3, g4, g5, g6] g13.toInt.toNat g21.toInt.toNat) ((0 : Int32) + g21).toInt.toNat [g8, g9, g10, g11] g15.toInt.toNat g22.toInt.toNat))) :: (a25, true, oXmlElement (vr a32) (vr a26) (vr a28) (vr a30) (vi 1) .null .null (vr a65)) :: (a33, false, oString (vr a34) (vi 0)) :: (a34, false, ar "" .byte []) :: (a32, true, oArrayList (vi 0) (vr (og1 Z))) :: (a30, false, oString (vr a31) (vi 0)) :: (a31, false, ar "" .byte [(vi 101)]) :: (a28, false, oString (vr a29) (vi 0)) :: (a29, false, ar "" .byte [(vi 101)]) :: (a26, false, oString (vr a27) (vi 0)) :: []) rfl rfl ?_
           refine W.front 15 (D' := (a26, false, oString (vr a27) (vi 0)) :: (a27, false, ar "" .byte []) :: (a2, true, ar "[C" .char [(vi g3), (vi g4), (vi g5), (vi g6)]) :: (a7, true, ar "[C" .char [(vi g8), (vi g9), (vi g10), (vi g11)]) :: (a65, true, oStringBuilder (vr a66) (vi 0) (vi (((0 : Int32) + g21) + g22))) :: (a66, true, ar "[B" .byte (lm (put (put (List.replicate g21.toInt.toNat (0 : Int32)) (0 : Int32).toInt.toNat [g3, g4, g5, g6] g13.toInt.toNat g21.toInt.toNat) ((0 : Int32) + g21).toInt.toNat [g8, g9, g10, g11] g15.toInt.toNat g22.toInt.toNat))) :: (a78, true, oString (vr a79) (vi 0)) :: (a79, true, ar "[B" .byte (lm (put (put (List.replicate g21.toInt.toNat (0 : Int32)) (0 : Int32).toInt.toNat [g3, g4, g5, g6] g13.toInt.toNat g21.toInt.toNat) ((0 : Int32) + g21).toInt.toNat [g8, g9, g10, g11] g15.toInt.toNat g22.toInt.toNat))) :: (a25, true, oXmlElement (vr a32) (vr a26) (vr a28) (vr a30) (vi 1) .null .null (vr a65)) :: (a33, false, oString (vr a34) (vi 0)) :: (a34, false, ar "" .byte []) :: (a32, true, oArrayList (vi 0) (vr (og1 Z))) :: (a30, false, oString (vr a31) (vi 0)) :: (a31, false, ar "" .byte [(vi 101)]) :: (a28, false, oString (vr a29) (vi 0)) :: (a29, false, ar "" .byte [(vi 101)]) :: []) rfl rfl ?_
           refine W.front 15 (D' := (a29, false, ar "" .byte [(vi 101)]) :: (a26, false, oString (vr a27) (vi 0)) :: (a27, false, ar "" .byte []) :: (a2, true, ar "[C" .char [(vi g3), (vi g4), (vi g5), (vi g6)]) :: (a7, true, ar "[C" .char [(vi g8), (vi g9), (vi g10), (vi g11)]) :: (a65, true, oStringBuilder (vr a66) (vi 0) (vi (((0 : Int32) + g21) + g22))) :: (a66, true, ar "[B" .byte (lm (put (put (List.replicate g21.toInt.toNat (0 : Int32)) (0 : Int32).toInt.toNat [g3, g4, g5, g6] g13.toInt.toNat g21.toInt.toNat) ((0 : Int32) + g21).toInt.toNat [g8, g9, g10, g11] g15.toInt.toNat g22.toInt.toNat))) :: (a78, true, oString (vr a79) (vi 0)) :: (a79, true, ar "[B" .byte (lm (put (put (List.replicate g21.toInt.toNat (0 : Int32)) (0 : Int32).toInt.toNat [g3, g4, g5, g6] g13.toInt.toNat g21.toInt.toNat) ((0 : Int32) + g21).toInt.toNat [g8, g9, g10, g11] g15.toInt.toNat g22.toInt.toNat))) :: (a25, true, oXmlElement (vr a32) (vr a26) (vr a28) (vr a30) (vi 1) .null .null (vr a65)) :: (a33, false, oString (vr a34) (vi 0)) :: (a34, false, ar "" .byte []) :: (a32, true, oArrayList (vi 0) (vr (og1 Z))) :: (a30, false, oString (vr a31) (vi 0)) :: (a31, false, ar "" .byte [(vi 101)]) :: (a28, false, oString (vr a29) (vi 0)) :: []) rfl rfl ?_
           refine W.front 15 (D' := (a28, false, oString (vr a29) (vi 0)) :: (a29, false, ar "" .byte [(vi 101)]) :: (a26, false, oString (vr a27) (vi 0)) :: (a27, false, ar "" .byte []) :: (a2, true, ar "[C" .char [(vi g3), (vi g4), (vi g5), (vi g6)]) :: (a7, true, ar "[C" .char [(vi g8), (vi g9), (vi g10), (vi g11)]) :: (a65, true, oStringBuilder (vr a66) (vi 0) (vi (((0 : Int32) + g21) + g22))) :: (a66, true, ar "[B" .byte (lm (put (put (List.replicate g21.toInt.toNat (0 : Int32)) (0 : Int32).toInt.toNat [g3, g4, g5, g6] g13.toInt.toNat g21.toInt.toNat) ((0 : Int32) + g21).toInt.toNat [g8, g9, g10, g11] g15.toInt.toNat g22.toInt.toNat))) :: (a78, true, oString (vr a79) (vi 0)) :: (a79, true, ar "[B" .byte (lm (put (put (List.replicate g21.toInt.toNat (0 : Int32)) (0 : Int32).toInt.toNat [g3, g4, g5, g6] g13.toInt.toNat g21.toInt.toNat) ((0 : Int32) + g21).toInt.toNat [g8, g9, g10, g11] g15.toInt.toNat g22.toInt.toNat))) :: (a25, true, oXmlElement (vr a32) (vr a26) (vr a28) (vr a30) (vi 1) .null .null (vr a65)) :: (a33, false, oString (vr a34) (vi 0)) :: (a34, false, ar "" .byte []) :: (a32, true, oArrayList (vi 0) (vr (og1 Z))) :: (a30, false, oString (vr a31) (vi 0)) :: (a31, false, ar "" .byte [(vi 101)]) :: []) rfl rfl ?_
           refine W.front 15 (D' := (a31, false, ar "" .byte [(vi 101)]) :: (a28, false, oString (vr a29) (vi 0)) :: (a29, false, ar "" .byte [(vi 101)]) :: (a26, false, oString (vr a27) (vi 0)) :: (a27, false, ar "" .byte []) :: (a2, true, ar "[C" .char [(vi g3), (vi g4), (vi g5), (vi g6)]) :: (a7, true, ar "[C" .char [(vi g8), (vi g9), (vi g10), (vi g11)]) :: (a65, true, oStringBuilder (vr a66) (vi 0) (vi (((0 : Int32) + g21) + g22))) :: (a66, true, ar "[B" .byte (lm (put (put (List.replicate g21.toInt.toNat (0 : Int32)) (0 : Int32).toInt.toNat [g3, g4, g5, g6] g13.toInt.toNat g21.toInt.toNat) ((0 : Int32) + g21).toInt.toNat [g8, g9, g10, g11] g15.toInt.toNat g22.toInt.toNat))) :: (a78, true, oString (vr a79) (vi 0)) :: (a79, true, ar "[B" .byte (lm (put (put (List.replicate g21.toInt.toNat (0 : Int32)) (0 : Int32).toInt.toNat [g3, g4, g5, g6] g13.toInt.toNat g21.toInt.toNat) ((0 : Int32) + g21).toInt.toNat [g8, g9, g10, g11] g15.toInt.toNat g22.toInt.toNat))) :: (a25, true, oXmlElement (vr a32) (vr a26) (vr a28) (vr a30) (vi 1) .null .null (vr a65)) :: (a33, false, oString (vr a34) (vi 0)) :: (a34, false, ar "" .byte []) :: (a32, true, oArrayList (vi 0) (vr (og1 Z))) :: (a30, false, oString (vr a31) (vi 0)) :: []) rfl rfl ?_
           refine W.front 15 (D' := (a30, false, oString (vr a31) (vi 0)) :: (a31, false, ar "" .byte [(vi 101)]) :: (a28, false, oString (vr a29) (vi 0)) :: (a29, false, ar "" .byte [(vi 101)]) :: (a26, false, oString (vr a27) (vi 0)) :: (a27, false, ar "" .byte []) :: (a2, true, ar "[C" .char [(vi g3), (vi g4), (vi g5), (vi g6)]) :: (a7, true, ar "[C" .char [(vi g8), (vi g9), (vi g10), (vi g11)]) :: (a65, true, oStringBuilder (vr a66) (vi 0) (vi (((0 : Int32) + g21) + g22))) :: (a66, true, ar "[B" .byte (lm (put (put (List.replicate g21.toInt.toNat (0 : Int32)) (0 : Int32).toInt.toNat [g3, g4, g5, g6] g13.toInt.toNat g21.toInt.toNat) ((0 : Int32) + g21).toInt.toNat [g8, g9, g10, g11] g15.toInt.toNat g22.toInt.toNat))) :: (a78, true, oString (vr a79) (vi 0)) :: (a79, true, ar "[B" .byte (lm (put (put (List.replicate g21.toInt.toNat (0 : Int32)) (0 : Int32).toInt.toNat [g3, g4, g5, g6] g13.toInt.toNat g21.toInt.toNat) ((0 : Int32) + g21).toInt.toNat [g8, g9, g10, g11] g15.toInt.toNat g22.toInt.toNat))) :: (a25, true, oXmlElement (vr a32) (vr a26) (vr a28) (vr a30) (vi 1) .null .null (vr a65)) :: (a33, false, oString (vr a34) (vi 0)) :: (a34, false, ar "" .byte []) :: (a32, true, oArrayList (vi 0) (vr (og1 Z))) :: []) rfl rfl ?_
           refine W.front 12 (D' := (a25, true, oXmlElement (vr a32) (vr a26) (vr a28) (vr a30) (vi 1) .null .null (vr a65)) :: (a30, false, oString (vr a31) (vi 0)) :: (a31, false, ar "" .byte [(vi 101)]) :: (a28, false, oString (vr a29) (vi 0)) :: (a29, false, ar "" .byte [(vi 101)]) :: (a26, false, oString (vr a27) (vi 0)) :: (a27, false, ar "" .byte []) :: (a2, true, ar "[C" .char [(vi g3), (vi g4), (vi g5), (vi g6)]) :: (a7, true, ar "[C" .char [(vi g8), (vi g9), (vi g10), (vi g11)]) :: (a65, true, oStringBuilder (vr a66) (vi 0) (vi (((0 : Int32) + g21) + g22))) :: (a66, true, ar "[B" .byte (lm (put (put (List.replicate g21.toInt.toNat (0 : Int32)) (0 : Int32).toInt.toNat [g3, g4, g5, g6] g13.toInt.toNat g21.toInt.toNat) ((0 : Int32) + g21).toInt.toNat [g8, g9, g10, g11] g15.toInt.toNat g22.toInt.toNat))) :: (a78, true, oString (vr a79) (vi 0)) :: (a79, true, ar "[B" .byte (lm (put (put (List.replicate g21.toInt.toNat (0 : Int32)) (0 : Int32).toInt.toNat [g3, g4, g5, g6] g13.toInt.toNat g21.toInt.toNat) ((0 : Int32) + g21).toInt.toNat [g8, g9, g10, g11] g15.toInt.toNat g22.toInt.toNat))) :: (a33, false, oString (vr a34) (vi 0)) :: (a34, false, ar "" .byte []) :: (a32, true, oArrayList (vi 0) (vr (og1 Z))) :: []) rfl rfl ?_
           refine W.front 15 (D' := (a32, true, oArrayList (vi 0) (vr (og1 Z))) :: (a25, true, oXmlElement (vr a32) (vr a26) (vr a28) (vr a30) (vi 1) .null .null (vr a65)) :: (a30, false, oString (vr a31) (vi 0)) :: (a31, false, ar "" .byte [(vi 101)]) :: (a28, false, oString (vr a29) (vi 0)) :: (a29, false, ar "" .byte [(vi 101)]) :: (a26, false, oString (vr a27) (vi 0)) :: (a27, false, ar "" .byte []) :: (a2, true, ar "[C" .char [(vi g3), (vi g4), (vi g5), (vi g6)]) :: (a7, true, ar "[C" .char [(vi g8), (vi g9), (vi g10), (vi g11)]) :: (a65, true, oStringBuilder (vr a66) (vi 0) (vi (((0 : Int32) + g21) + g22))) :: (a66, true, ar "[B" .byte (lm (put (put (List.replicate g21.toInt.toNat (0 : Int32)) (0 : Int32).toInt.toNat [g3, g4, g5, g6] g13.toInt.toNat g21.toInt.toNat) ((0 : Int32) + g21).toInt.toNat [g8, g9, g10, g11] g15.toInt.toNat g22.toInt.toNat))) :: (a78, true, oString (vr a79) (vi 0)) :: (a79, true, ar "[B" .byte (lm (put (put (List.replicate g21.toInt.toNat (0 : Int32)) (0 : Int32).toInt.toNat [g3, g4, g5, g6] g13.toInt.toNat g21.toInt.toNat) ((0 : Int32) + g21).toInt.toNat [g8, g9, g10, g11] g15.toInt.toNat g22.toInt.toNat))) :: (a33, false, oString (vr a34) (vi 0)) :: (a34, false, ar "" .byte []) :: []) rfl rfl ?_
           refine W.front 15 (D' := (a34, false, ar "" .byte []) :: (a32, true, oArrayList (vi 0) (vr (og1 Z))) :: (a25, true, oXmlElement (vr a32) (vr a26) (vr a28) (vr a30) (vi 1) .null .null (vr a65)) :: (a30, false, oString (vr a31) (vi 0)) :: (a31, false, ar "" .byte [(vi 101)]) :: (a28, false, oString (vr a29) (vi 0)) :: (a29, false, ar "" .byte [(vi 101)]) :: (a26, false, oString (vr a27) (vi 0)) :: (a27, false, ar "" .byte []) :: (a2, true, ar "[C" .char [(vi g3), (vi g4), (vi g5), (vi g6)]) :: (a7, true, ar "[C" .char [(vi g8), (vi g9), (vi g10), (vi g11)]) :: (a65, true, oStringBuilder (vr a66) (vi 0) (vi (((0 : Int32) + g21) + g22))) :: (a66, true, ar "[B" .byte (lm (put (put (List.replicate g21.toInt.toNat (0 : Int32)) (0 : Int32).toInt.toNat [g3, g4, g5, g6] g13.toInt.toNat g21.toInt.toNat) ((0 : Int32) + g21).toInt.toNat [g8, g9, g10, g11] g15.toInt.toNat g22.toInt.toNat))) :: (a78, true, oString (vr a79) (vi 0)) :: (a79, true, ar "[B" .byte (lm (put (put (List.replicate g21.toInt.toNat (0 : Int32)) (0 : Int32).toInt.toNat [g3, g4, g5, g6] g13.toInt.toNat g21.toInt.toNat) ((0 : Int32) + g21).toInt.toNat [g8, g9, g10, g11] g15.toInt.toNat g22.toInt.toNat))) :: (a33, false, oString (vr a34) (vi 0)) :: []) rfl rfl ?_
           refine W.front 15 (D' := (a33, false, oString (vr a34) (vi 0)) :: (a34, false, ar "" .byte []) :: (a32, true, oArrayList (vi 0) (vr (og1 Z))) :: (a25, true, oXmlElement (vr a32) (vr a26) (vr a28) (vr a30) (vi 1) .null .null (vr a65)) :: (a30, false, oString (vr a31) (vi 0)) :: (a31, false, ar "" .byte [(vi 101)]) :: (a28, false, oString (vr a29) (vi 0)) :: (a29, false, ar "" .byte [(vi 101)]) :: (a26, false, oString (vr a27) (vi 0)) :: (a27, false, ar "" .byte []) :: (a2, true, ar "[C" .char [(vi g3), (vi g4), (vi g5), (vi g6)]) :: (a7, true, ar "[C" .char [(vi g8), (vi g9), (vi g10), (vi g11)]) :: (a65, true, oStringBuilder (vr a66) (vi 0) (vi (((0 : Int32) + g21) + g22))) :: (a66, true, ar "[B" .byte (lm (put (put (List.replicate g21.toInt.toNat (0 : Int32)) (0 : Int32).toInt.toNat [g3, g4, g5, g6] g13.toInt.toNat g21.toInt.toNat) ((0 : Int32) + g21).toInt.toNat [g8, g9, g10, g11] g15.toInt.toNat g22.toInt.toNat))) :: (a78, true, oString (vr a79) (vi 0)) :: (a79, true, ar "[B" .byte (lm (put (put (List.replicate g21.toInt.toNat (0 : Int32)) (0 : Int32).toInt.toNat [g3, g4, g5, g6] g13.toInt.toNat g21.toInt.toNat) ((0 : Int32) + g21).toInt.toNat [g8, g9, g10, g11] g15.toInt.toNat g22.toInt.toNat))) :: []) rfl rfl ?_
           exact W.mono (by decide) (by decide) (K64 a65 a66 g21 (put (put (List.replicate g21.toInt.toNat (0 : Int32)) (0 : Int32).toInt.toNat [g3, g4, g5, g6] g13.toInt.toNat g21.toInt.toNat) ((0 : Int32) + g21).toInt.toNat [g8, g9, g10, g11] g15.toInt.toNat g22.toInt.toNat) (((0 : Int32) + g21) + g22) g22 a78 a79 g21 (put (put (List.replicate g21.toInt.toNat (0 : Int32)) (0 : Int32).toInt.toNat [g3, g4, g5, g6] g13.toInt.toNat g21.toInt.toNat) ((0 : Int32) + g21).toInt.toNat [g8, g9, g10, g11] g15.toInt.toNat g22.toInt.toNat) (by have := a_add g13 g21; have := q4; have := q0; have := a_add (0 : Int32) g21; have := a_sub ((0 : Int32) + g21) g21; have := a_add ((0 : Int32) + g21) g22; have := a_sub (((0 : Int32) + g21) + g22) g21; have := a_add g15 g22; omega) hl73 (by have := q0; have := a_add (0 : Int32) g21; have := a_add ((0 : Int32) + g21) g22; have := a_add g13 g21; have := q4; have := a_add g15 g22; have := a_sub ((0 : Int32) + g21) g21; have := a_sub (((0 : Int32) + g21) + g22) g21; omega) hg22 (by have := a_add g13 g21; have := q4; have := q0; have := a_add (0 : Int32) g21; have := a_sub ((0 : Int32) + g21) g21; have := a_add ((0 : Int32) + g21) g22; have := a_sub (((0 : Int32) + g21) + g22) g21; have := a_add g15 g22; omega) hl73 (by have := a_add g21 g22; have := q0; have := q4; have := a_add g15 g22; have := a_add g13 g21; have := a_add (0 : Int32) g21; have := a_sub ((0 : Int32) + g21) g21; have := a_add ((0 : Int32) + g21) g22; have := a_sub (((0 : Int32) + g21) + g22) g21; omega) (by have := a_add g21 g22; have := q0; have := q4; have := a_add g15 g22; have := a_add g13 g21; have := a_add (0 : Int32) g21; have := a_sub ((0 : Int32) + g21) g21; have := a_add ((0 : Int32) + g21) g22; have := a_sub (((0 : Int32) + g21) + g22) g21; omega) (by intro i k h1 h2 h3; have := a_add g21 g22; have := q0; have := q4; have := a_add g15 g22; have := a_add (0 : Int32) g21; have := a_add g13 g21; have := a_sub ((0 : Int32) + g21) g21; have := a_add ((0 : Int32) + g21) g22; have := a_sub (((0 : Int32) + g21) + g22) g21; rw [sel_put_before (len_putI (len_rep (z := g21) (by omega)) (len_q (k := 4) (z := (4 : Int32)) rfl (by decide)) (by omega)) (len_q (k := 4) (z := (4 : Int32)) rfl (by decide)) (by omega), sel_put_in (k := k) (len_rep (z := g21) (by omega)) (len_q (k := 4) (z := (4 : Int32)) rfl (by decide)) (by omega), z_b255 (sel_b (bl4 hg3 hg4 hg5 hg6) (by decide) k)]) (by intro i k h1 h2 h3; have := a_add g21 g22; have := q0; have := q4; have := a_add g15 g22; have := a_add (0 : Int32) g21; have := a_add g13 g21; have := a_sub ((0 : Int32) + g21) g21; have := a_add ((0 : Int32) + g21) g22; have := a_sub (((0 : Int32) + g21) + g22) g21; rw [sel_put_in (k := k) (len_putI (len_rep (z := g21) (by omega)) (len_q (k := 4) (z := (4 : Int32)) rfl (by decide)) (by omega)) (len_q (k := 4) (z := (4 : Int32)) rfl (by decide)) (by omega), z_b255 (sel_b (bl4 hg8 hg9 hg10 hg11) (by decide) k)]))
          ·
           exact absurd h22 (Classical.not_not.mpr (y_eq (by have := q0; have := a_add (0 : Int32) g21; have := a_add ((0 : Int32) + g21) g22; have := a_add g13 g21; have := q4; have := a_add g15 g22; have := a_sub ((0 : Int32) + g21) g21; have := a_sub (((0 : Int32) + g21) + g22) g21; omega)))
         ·
          have ih15 := f_le h15
          have ih16 := t_lt h16
          have ih17 := f_gt h17
          show W _ _ _ _ _ _ _ _ _ _ _ _ 254 _ []
          refine W.iload at_254 rfl ?_
          refine W.istore (ls' := #[iv z0, iv z1, iv z2, iv z3, iv z4, rv a2, rv a7, iv g13, iv g21, iv g15, iv g22, iv g18, iv g23, rv a25, rv a33, iv g21, iv g22, uu, uu]) at_256 rfl ?_
          refine W.aload 13 at_258 rfl rfl ?_
          refine W.callV (as := []) 0 [] at_260 (wq hw 57 rfl) (wq hw 58 rfl) (wq hw 60 rfl) (wq hw 60 rfl) (wq hw 59 rfl) (wq hw 3 rfl) (wq hw 61 rfl) (Hp.exa m3) (c47_text hw hs (hx1 := (by have := q0; have := a_add (0 : Int32) g21; have := a_add ((0 : Int32) + g21) g22; have := a_add g13 g21; have := q4; have := a_add g15 g22; have := a_sub ((0 : Int32) + g21) g21; have := a_sub (((0 : Int32) + g21) + g22) g21; have := q2; have := a_add g21 (2 : Int32); have := a_add g21 (g21 + (2 : Int32)); omega)) (hx2 := (by have := q2; have := a_add g21 (2 : Int32); have := a_add g21 (g21 + (2 : Int32)); have := a_add g13 g21; have := q4; have := q0; have := a_add (0 : Int32) g21; have := a_sub ((0 : Int32) + g21) g21; have := a_add ((0 : Int32) + g21) g22; have := a_sub (((0 : Int32) + g21) + g22) g21; have := a_add g15 g22; omega)) (hr0 := by have := q0; have := a_add (0 : Int32) g21; have := a_add ((0 : Int32) + g21) g22; have := q2; have := a_add g21 (2 : Int32); have := a_add g21 (g21 + (2 : Int32)); have := a_add g13 g21; have := q4; have := a_add g15 g22; have := a_sub ((0 : Int32) + g21) g21; have := a_sub (((0 : Int32) + g21) + g22) g21; omega) (l1 := (put (cpl (put (List.replicate g21.toInt.toNat (0 : Int32)) (0 : Int32).toInt.toNat [g3, g4, g5, g6] g13.toInt.toNat g21.toInt.toNat) (0 : Int32).toInt.toNat (List.replicate (g21 + (g21 + (2 : Int32))).toInt.toNat (0 : Int32)) (0 : Int32).toInt.toNat g21.toInt.toNat) ((0 : Int32) + g21).toInt.toNat [g8, g9, g10, g11] g15.toInt.toNat g22.toInt.toNat)) (hl_l1 := hl75) (mp1 := m3) (mp6 := m1) (mp10 := m0)) (by decide) pd__Ljava_lang_String_ rfl rfl rfl rfl (by decide) (fun v D' h => ?_)
          rcases h with ⟨a83, a84, h24, rfl, rfl⟩ | ⟨a85, a86, h25, h26, hl87, rfl, rfl⟩
          ·
           exact absurd h24 (n_eq (by have := q0; have := a_add (0 : Int32) g21; have := a_add ((0 : Int32) + g21) g22; have := q2; have := a_add g21 (2 : Int32); have := a_add g21 (g21 + (2 : Int32)); have := a_add g13 g21; have := q4; have := a_add g15 g22; have := a_sub ((0 : Int32) + g21) g21; have := a_sub (((0 : Int32) + g21) + g22) g21; omega))
          ·
           have ih25 := f_eq h25
           have ih26 := t_gt h26
           show W _ _ _ _ _ _ _ _ _ _ _ _ 263 _ [(vr a85)]
           refine W.astore (ls' := #[iv z0, iv z1, iv z2, iv z3, iv z4, rv a2, rv a7, iv g13, iv g21, iv g15, iv g22, iv g18, iv g23, rv a25, rv a33, iv g21, iv g22, rv a85, uu]) at_263 rfl rfl ?_
           refine W.front 1 (D' := (a85, true, oString (vr a86) (vi 0)) :: (a86, true, ar "[B" .byte (lm (cpl (put (cpl (put (List.replicate g21.toInt.toNat (0 : Int32)) (0 : Int32).toInt.toNat [g3, g4, g5, g6] g13.toInt.toNat g21.toInt.toNat) (0 : Int32).toInt.toNat (List.replicate (g21 + (g21 + (2 : Int32))).toInt.toNat (0 : Int32)) (0 : Int32).toInt.toNat g21.toInt.toNat) ((0 : Int32) + g21).toInt.toNat [g8, g9, g10, g11] g15.toInt.toNat g22.toInt.toNat) (0 : Int32).toInt.toNat (List.replicate (((0 : Int32) + g21) + g22).toInt.toNat (0 : Int32)) (0 : Int32).toInt.toNat (((0 : Int32) + g21) + g22).toInt.toNat))) :: (a74, true, ar "[B" .byte (lm (put (cpl (put (List.replicate g21.toInt.toNat (0 : Int32)) (0 : Int32).toInt.toNat [g3, g4, g5, g6] g13.toInt.toNat g21.toInt.toNat) (0 : Int32).toInt.toNat (List.replicate (g21 + (g21 + (2 : Int32))).toInt.toNat (0 : Int32)) (0 : Int32).toInt.toNat g21.toInt.toNat) ((0 : Int32) + g21).toInt.toNat [g8, g9, g10, g11] g15.toInt.toNat g22.toInt.toNat))) :: (a65, true, oStringBuilder (vr a74) (vi 0) (vi (((0 : Int32) + g21) + g22))) :: (a66, true, ar "[B" .byte (lm (put (List.replicate g21.toInt.toNat (0 : Int32)) (0 : Int32).toInt.toNat [g3, g4, g5, g6] g13.toInt.toNat g21.toInt.toNat))) :: (a25, true, oXmlElement (vr a32) (vr a26) (vr a28) (vr a30) (vi 1) .null .null (vr a65)) :: (a33, false, oString (vr a34) (vi 0)) :: (a34, false, ar "" .byte []) :: (a32, true, oArrayList (vi 0) (vr (og1 Z))) :: (a30, false, oString (vr a31) (vi 0)) :: (a31, false, ar "" .byte [(vi 101)]) :: (a28, false, oString (vr a29) (vi 0)) :: (a29, false, ar "" .byte [(vi 101)]) :: (a26, false, oString (vr a27) (vi 0)) :: (a27, false, ar "" .byte []) :: (a2, true, ar "[C" .char [(vi g3), (vi g4), (vi g5), (vi g6)]) :: (a7, true, ar "[C" .char [(vi g8), (vi g9), (vi g10), (vi g11)]) :: []) rfl rfl ?_
           refine W.front 2 (D' := (a74, true, ar "[B" .byte (lm (put (cpl (put (List.replicate g21.toInt.toNat (0 : Int32)) (0 : Int32).toInt.toNat [g3, g4, g5, g6] g13.toInt.toNat g21.toInt.toNat) (0 : Int32).toInt.toNat (List.replicate (g21 + (g21 + (2 : Int32))).toInt.toNat (0 : Int32)) (0 : Int32).toInt.toNat g21.toInt.toNat) ((0 : Int32) + g21).toInt.toNat [g8, g9, g10, g11] g15.toInt.toNat g22.toInt.toNat))) :: (a85, true, oString (vr a86) (vi 0)) :: (a86, true, ar "[B" .byte (lm (cpl (put (cpl (put (List.replicate g21.toInt.toNat (0 : Int32)) (0 : Int32).toInt.toNat [g3, g4, g5, g6] g13.toInt.toNat g21.toInt.toNat) (0 : Int32).toInt.toNat (List.replicate (g21 + (g21 + (2 : Int32))).toInt.toNat (0 : Int32)) (0 : Int32).toInt.toNat g21.toInt.toNat) ((0 : Int32) + g21).toInt.toNat [g8, g9, g10, g11] g15.toInt.toNat g22.toInt.toNat) (0 : Int32).toInt.toNat (List.replicate (((0 : Int32) + g21) + g22).toInt.toNat (0 : Int32)) (0 : Int32).toInt.toNat (((0 : Int32) + g21) + g22).toInt.toNat))) :: (a65, true, oStringBuilder (vr a74) (vi 0) (vi (((0 : Int32) + g21) + g22))) :: (a66, true, ar "[B" .byte (lm (put (List.replicate g21.toInt.toNat (0 : Int32)) (0 : Int32).toInt.toNat [g3, g4, g5, g6] g13.toInt.toNat g21.toInt.toNat))) :: (a25, true, oXmlElement (vr a32) (vr a26) (vr a28) (vr a30) (vi 1) .null .null (vr a65)) :: (a33, false, oString (vr a34) (vi 0)) :: (a34, false, ar "" .byte []) :: (a32, true, oArrayList (vi 0) (vr (og1 Z))) :: (a30, false, oString (vr a31) (vi 0)) :: (a31, false, ar "" .byte [(vi 101)]) :: (a28, false, oString (vr a29) (vi 0)) :: (a29, false, ar "" .byte [(vi 101)]) :: (a26, false, oString (vr a27) (vi 0)) :: (a27, false, ar "" .byte []) :: (a2, true, ar "[C" .char [(vi g3), (vi g4), (vi g5), (vi g6)]) :: (a7, true, ar "[C" .char [(vi g8), (vi g9), (vi g10), (vi g11)]) :: []) rfl rfl ?_
           refine W.front 3 (D' := (a65, true, oStringBuilder (vr a74) (vi 0) (vi (((0 : Int32) + g21) + g22))) :: (a74, true, ar "[B" .byte (lm (put (cpl (put (List.replicate g21.toInt.toNat (0 : Int32)) (0 : Int32).toInt.toNat [g3, g4, g5, g6] g13.toInt.toNat g21.toInt.toNat) (0 : Int32).toInt.toNat (List.replicate (g21 + (g21 + (2 : Int32))).toInt.toNat (0 : Int32)) (0 : Int32).toInt.toNat g21.toInt.toNat) ((0 : Int32) + g21).toInt.toNat [g8, g9, g10, g11] g15.toInt.toNat g22.toInt.toNat))) :: (a85, true, oString (vr a86) (vi 0)) :: (a86, true, ar "[B" .byte (lm (cpl (put (cpl (put (List.replicate g21.toInt.toNat (0 : Int32)) (0 : Int32).toInt.toNat [g3, g4, g5, g6] g13.toInt.toNat g21.toInt.toNat) (0 : Int32).toInt.toNat (List.replicate (g21 + (g21 + (2 : Int32))).toInt.toNat (0 : Int32)) (0 : Int32).toInt.toNat g21.toInt.toNat) ((0 : Int32) + g21).toInt.toNat [g8, g9, g10, g11] g15.toInt.toNat g22.toInt.toNat) (0 : Int32).toInt.toNat (List.replicate (((0 : Int32) + g21) + g22).toInt.toNat (0 : Int32)) (0 : Int32).toInt.toNat (((0 : Int32) + g21) + g22).toInt.toNat))) :: (a66, true, ar "[B" .byte (lm (put (List.replicate g21.toInt.toNat (0 : Int32)) (0 : Int32).toInt.toNat [g3, g4, g5, g6] g13.toInt.toNat g21.toInt.toNat))) :: (a25, true, oXmlElement (vr a32) (vr a26) (vr a28) (vr a30) (vi 1) .null .null (vr a65)) :: (a33, false, oString (vr a34) (vi 0)) :: (a34, false, ar "" .byte []) :: (a32, true, oArrayList (vi 0) (vr (og1 Z))) :: (a30, false, oString (vr a31) (vi 0)) :: (a31, false, ar "" .byte [(vi 101)]) :: (a28, false, oString (vr a29) (vi 0)) :: (a29, false, ar "" .byte [(vi 101)]) :: (a26, false, oString (vr a27) (vi 0)) :: (a27, false, ar "" .byte []) :: (a2, true, ar "[C" .char [(vi g3), (vi g4), (vi g5), (vi g6)]) :: (a7, true, ar "[C" .char [(vi g8), (vi g9), (vi g10), (vi g11)]) :: []) rfl rfl ?_
           refine W.front 16 (D' := (a7, true, ar "[C" .char [(vi g8), (vi g9), (vi g10), (vi g11)]) :: (a65, true, oStringBuilder (vr a74) (vi 0) (vi (((0 : Int32) + g21) + g22))) :: (a74, true, ar "[B" .byte (lm (put (cpl (put (List.replicate g21.toInt.toNat (0 : Int32)) (0 : Int32).toInt.toNat [g3, g4, g5, g6] g13.toInt.toNat g21.toInt.toNat) (0 : Int32).toInt.toNat (List.replicate (g21 + (g21 + (2 : Int32))).toInt.toNat (0 : Int32)) (0 : Int32).toInt.toNat g21.toInt.toNat) ((0 : Int32) + g21).toInt.toNat [g8, g9, g10, g11] g15.toInt.toNat g22.toInt.toNat))) :: (a85, true, oString (vr a86) (vi 0)) :: (a86, true, ar "[B" .byte (lm (cpl (put (cpl (put (List.replicate g21.toInt.toNat (0 : Int32)) (0 : Int32).toInt.toNat [g3, g4, g5, g6] g13.toInt.toNat g21.toInt.toNat) (0 : Int32).toInt.toNat (List.replicate (g21 + (g21 + (2 : Int32))).toInt.toNat (0 : Int32)) (0 : Int32).toInt.toNat g21.toInt.toNat) ((0 : Int32) + g21).toInt.toNat [g8, g9, g10, g11] g15.toInt.toNat g22.toInt.toNat) (0 : Int32).toInt.toNat (List.replicate (((0 : Int32) + g21) + g22).toInt.toNat (0 : Int32)) (0 : Int32).toInt.toNat (((0 : Int32) + g21) + g22).toInt.toNat))) :: (a66, true, ar "[B" .byte (lm (put (List.replicate g21.toInt.toNat (0 : Int32)) (0 : Int32).toInt.toNat [g3, g4, g5, g6] g13.toInt.toNat g21.toInt.toNat))) :: (a25, true, oXmlElement (vr a32) (vr a26) (vr a28) (vr a30) (vi 1) .null .null (vr a65)) :: (a33, false, oString (vr a34) (vi 0)) :: (a34, false, ar "" .byte []) :: (a32, true, oArrayList (vi 0) (vr (og1 Z))) :: (a30, false, oString (vr a31) (vi 0)) :: (a31, false, ar "" .byte [(vi 101)]) :: (a28, false, oString (vr a29) (vi 0)) :: (a29, false, ar "" .byte [(vi 101)]) :: (a26, false, oString (vr a27) (vi 0)) :: (a27, false, ar "" .byte []) :: (a2, true, ar "[C" .char [(vi g3), (vi g4), (vi g5), (vi g6)]) :: []) rfl rfl ?_
           refine W.front 16 (D' := (a2, true, ar "[C" .char [(vi g3), (vi g4), (vi g5), (vi g6)]) :: (a7, true, ar "[C" .char [(vi g8), (vi g9), (vi g10), (vi g11)]) :: (a65, true, oStringBuilder (vr a74) (vi 0) (vi (((0 : Int32) + g21) + g22))) :: (a74, true, ar "[B" .byte (lm (put (cpl (put (List.replicate g21.toInt.toNat (0 : Int32)) (0 : Int32).toInt.toNat [g3, g4, g5, g6] g13.toInt.toNat g21.toInt.toNat) (0 : Int32).toInt.toNat (List.replicate (g21 + (g21 + (2 : Int32))).toInt.toNat (0 : Int32)) (0 : Int32).toInt.toNat g21.toInt.toNat) ((0 : Int32) + g21).toInt.toNat [g8, g9, g10, g11] g15.toInt.toNat g22.toInt.toNat))) :: (a85, true, oString (vr a86) (vi 0)) :: (a86, true, ar "[B" .byte (lm (cpl (put (cpl (put (List.replicate g21.toInt.toNat (0 : Int32)) (0 : Int32).toInt.toNat [g3, g4, g5, g6] g13.toInt.toNat g21.toInt.toNat) (0 : Int32).toInt.toNat (List.replicate (g21 + (g21 + (2 : Int32))).toInt.toNat (0 : Int32)) (0 : Int32).toInt.toNat g21.toInt.toNat) ((0 : Int32) + g21).toInt.toNat [g8, g9, g10, g11] g15.toInt.toNat g22.toInt.toNat) (0 : Int32).toInt.toNat (List.replicate (((0 : Int32) + g21) + g22).toInt.toNat (0 : Int32)) (0 : Int32).toInt.toNat (((0 : Int32) + g21) + g22).toInt.toNat))) :: (a66, true, ar "[B" .byte (lm (put (List.replicate g21.toInt.toNat (0 : Int32)) (0 : Int32).toInt.toNat [g3, g4, g5, g6] g13.toInt.toNat g21.toInt.toNat))) :: (a25, true, oXmlElement (vr a32) (vr a26) (vr a28) (vr a30) (vi 1) .null .null (vr a65)) :: (a33, false, oString (vr a34) (vi 0)) :: (a34, false, ar "" .byte []) :: (a32, true, oArrayList (vi 0) (vr (og1 Z))) :: (a30, false, oString (vr a31) (vi 0)) :: (a31, false, ar "" .byte [(vi 101)]) :: (a28, false, oString (vr a29) (vi 0)) :: (a29, false, ar "" .byte [(vi 101)]) :: (a26, false, oString (vr a27) (vi 0)) :: (a27, false, ar "" .byte []) :: []) rfl rfl ?_
           refine W.front 16 (D' := (a27, false, ar "" .byte []) :: (a2, true, ar "[C" .char [(vi g3), (vi g4), (vi g5), (vi g6)]) :: (a7, true, ar "[C" .char [(vi g8), (vi g9), (vi g10), (vi g11)]) :: (a65, true, oStringBuilder (vr a74) (vi 0) (vi (((0 : Int32) + g21) + g22))) :: (a74, true, ar "[B" .byte (lm (put (cpl (put (List.replicate g21.toInt.toNat (0 : Int32)) (0 : Int32).toInt.toNat [g3, g4, g5, g6] g13.toInt.toNat g21.toInt.toNat) (0 : Int32).toInt.toNat (List.replicate (g21 + (g21 + (2 : Int32))).toInt.toNat (0 : Int32)) (0 : Int32).toInt.toNat g21.toInt.toNat) ((0 : Int32) + g21).toInt.toNat [g8, g9, g10, g11] g15.toInt.toNat g22.toInt.toNat))) :: (a85, true, oString (vr a86) (vi 0)) :: (a86, true, ar "[B" .byte (lm (cpl (put (cpl (put (List.replicate g21.toInt.toNat (0 : Int32)) (0 : Int32).toInt.toNat [g3, g4, g5, g6] g13.toInt.toNat g21.toInt.toNat) (0 : Int32).toInt.toNat (List.replicate (g21 + (g21 + (2 : Int32))).toInt.toNat (0 : Int32)) (0 : Int32).toInt.toNat g21.toInt.toNat) ((0 : Int32) + g21).toInt.toNat [g8, g9, g10, g11] g15.toInt.toNat g22.toInt.toNat) (0 : Int32).toInt.toNat (List.replicate (((0 : Int32) + g21) + g22).toInt.toNat (0 : Int32)) (0 : Int32).toInt.toNat (((0 : Int32) + g21) + g22).toInt.toNat))) :: (a66, true, ar "[B" .byte (lm (put (List.replicate g21.toInt.toNat (0 : Int32)) (0 : Int32).toInt.toNat [g3, g4, g5, g6] g13.toInt.toNat g21.toInt.toNat))) :: (a25, true, oXmlElement (vr a32) (vr a26) (vr a28) (vr a30) (vi 1) .null .null (vr a65)) :: (a33, false, oString (vr a34) (vi 0)) :: (a34, false, ar "" .byte []) :: (a32, true, oArrayList (vi 0) (vr (og1 Z))) :: (a30, false, oString (vr a31) (vi 0)) :: (a31, false, ar "" .byte [(vi 101)]) :: (a28, false, oString (vr a29) (vi 0)) :: (a29, false, ar "" .byte [(vi 101)]) :: (a26, false, oString (vr a27) (vi 0)) :: []) rfl rfl ?_
           refine W.front 16 (D' := (a26, false, oString (vr a27) (vi 0)) :: (a27, false, ar "" .byte []) :: (a2, true, ar "[C" .char [(vi g3), (vi g4), (vi g5), (vi g6)]) :: (a7, true, ar "[C" .char [(vi g8), (vi g9), (vi g10), (vi g11)]) :: (a65, true, oStringBuilder (vr a74) (vi 0) (vi (((0 : Int32) + g21) + g22))) :: (a74, true, ar "[B" .byte (lm (put (cpl (put (List.replicate g21.toInt.toNat (0 : Int32)) (0 : Int32).toInt.toNat [g3, g4, g5, g6] g13.toInt.toNat g21.toInt.toNat) (0 : Int32).toInt.toNat (List.replicate (g21 + (g21 + (2 : Int32))).toInt.toNat (0 : Int32)) (0 : Int32).toInt.toNat g21.toInt.toNat) ((0 : Int32) + g21).toInt.toNat [g8, g9, g10, g11] g15.toInt.toNat g22.toInt.toNat))) :: (a85, true, oString (vr a86) (vi 0)) :: (a86, true, ar "[B" .byte (lm (cpl (put (cpl (put (List.replicate g21.toInt.toNat (0 : Int32)) (0 : Int32).toInt.toNat [g3, g4, g5, g6] g13.toInt.toNat g21.toInt.toNat) (0 : Int32).toInt.toNat (List.replicate (g21 + (g21 + (2 : Int32))).toInt.toNat (0 : Int32)) (0 : Int32).toInt.toNat g21.toInt.toNat) ((0 : Int32) + g21).toInt.toNat [g8, g9, g10, g11] g15.toInt.toNat g22.toInt.toNat) (0 : Int32).toInt.toNat (List.replicate (((0 : Int32) + g21) + g22).toInt.toNat (0 : Int32)) (0 : Int32).toInt.toNat (((0 : Int32) + g21) + g22).toInt.toNat))) :: (a66, true, ar "[B" .byte (lm (put (List.replicate g21.toInt.toNat (0 : Int32)) (0 : Int32).toInt.toNat [g3, g4, g5, g6] g13.toInt.toNat g21.toInt.toNat))) :: (a25, true, oXmlElement (vr a32) (vr a26) (vr a28) (vr a30) (vi 1) .null .null (vr a65)) :: (a33, false, oString (vr a34) (vi 0)) :: (a34, false, ar "" .byte []) :: (a32, true, oArrayList (vi 0) (vr (og1 Z))) :: (a30, false, oString (vr a31) (vi 0)) :: (a31, false, ar "" .byte [(vi 101)]) :: (a28, false, oString (vr a29) (vi 0)) :: (a29, false, ar "" .byte [(vi 101)]) :: []) rfl rfl ?_
           refine W.front 16 (D' := (a29, false, ar "" .byte [(vi 101)]) :: (a26, false, oString (vr a27) (vi 0)) :: (a27, false, ar "" .byte []) :: (a2, true, ar "[C" .char [(vi g3), (vi g4), (vi g5), (vi g6)]) :: (a7, true, ar "[C" .char [(vi g8), (vi g9), (vi g10), (vi g11)]) :: (a65, true, oStringBuilder (vr a74) (vi 0) (vi (((0 : Int32) + g21) + g22))) :: (a74, true, ar "[B" .byte (lm (put (cpl (put (List.replicate g21.toInt.toNat (0 : Int32)) (0 : Int32).toInt.toNat [g3, g4, g5, g6] g13.toInt.toNat g21.toInt.toNat) (0 : Int32).toInt.toNat (List.replicate (g21 + (g21 + (2 : Int32))).toInt.toNat (0 : Int32)) (0 : Int32).toInt.toNat g21.toInt.toNat) ((0 : Int32) + g21).toInt.toNat [g8, g9, g10, g11] g15.toInt.toNat g22.toInt.toNat))) :: (a85, true, oString (vr a86) (vi 0)) :: (a86, true, ar "[B" .byte (lm (cpl (put (cpl (put (List.replicate g21.toInt.toNat (0 : Int32)) (0 : Int32).toInt.toNat [g3, g4, g5, g6] g13.toInt.toNat g21.toInt.toNat) (0 : Int32).toInt.toNat (List.replicate (g21 + (g21 + (2 : Int32))).toInt.toNat (0 : Int32)) (0 : Int32).toInt.toNat g21.toInt.toNat) ((0 : Int32) + g21).toInt.toNat [g8, g9, g10, g11] g15.toInt.toNat g22.toInt.toNat) (0 : Int32).toInt.toNat (List.replicate (((0 : Int32) + g21) + g22).toInt.toNat (0 : Int32)) (0 : Int32).toInt.toNat (((0 : Int32) + g21) + g22).toInt.toNat))) :: (a66, true, ar "[B" .byte (lm (put (List.replicate g21.toInt.toNat (0 : Int32)) (0 : Int32).toInt.toNat [g3, g4, g5, g6] g13.toInt.toNat g21.toInt.toNat))) :: (a25, true, oXmlElement (vr a32) (vr a26) (vr a28) (vr a30) (vi 1) .null .null (vr a65)) :: (a33, false, oString (vr a34) (vi 0)) :: (a34, false, ar "" .byte []) :: (a32, true, oArrayList (vi 0) (vr (og1 Z))) :: (a30, false, oString (vr a31) (vi 0)) :: (a31, false, ar "" .byte [(vi 101)]) :: (a28, false, oString (vr a29) (vi 0)) :: []) rfl rfl ?_
           refine W.front 16 (D' := (a28, false, oString (vr a29) (vi 0)) :: (a29, false, ar "" .byte [(vi 101)]) :: (a26, false, oString (vr a27) (vi 0)) :: (a27, false, ar "" .byte []) :: (a2, true, ar "[C" .char [(vi g3), (vi g4), (vi g5), (vi g6)]) :: (a7, true, ar "[C" .char [(vi g8), (vi g9), (vi g10), (vi g11)]) :: (a65, true, oStringBuilder (vr a74) (vi 0) (vi (((0 : Int32) + g21) + g22))) :: (a74, true, ar "[B" .byte (lm (put (cpl (put (List.replicate g21.toInt.toNat (0 : Int32)) (0 : Int32).toInt.toNat [g3, g4, g5, g6] g13.toInt.toNat g21.toInt.toNat) (0 : Int32).toInt.toNat (List.replicate (g21 + (g21 + (2 : Int32))).toInt.toNat (0 : Int32)) (0 : Int32).toInt.toNat g21.toInt.toNat) ((0 : Int32) + g21).toInt.toNat [g8, g9, g10, g11] g15.toInt.toNat g22.toInt.toNat))) :: (a85, true, oString (vr a86) (vi 0)) :: (a86, true, ar "[B" .byte (lm (cpl (put (cpl (put (List.replicate g21.toInt.toNat (0 : Int32)) (0 : Int32).toInt.toNat [g3, g4, g5, g6] g13.toInt.toNat g21.toInt.toNat) (0 : Int32).toInt.toNat (List.replicate (g21 + (g21 + (2 : Int32))).toInt.toNat (0 : Int32)) (0 : Int32).toInt.toNat g21.toInt.toNat) ((0 : Int32) + g21).toInt.toNat [g8, g9, g10, g11] g15.toInt.toNat g22.toInt.toNat) (0 : Int32).toInt.toNat (List.replicate (((0 : Int32) + g21) + g22).toInt.toNat (0 : Int32)) (0 : Int32).toInt.toNat (((0 : Int32) + g21) + g22).toInt.toNat))) :: (a66, true, ar "[B" .byte (lm (put (List.replicate g21.toInt.toNat (0 : Int32)) (0 : Int32).toInt.toNat [g3, g4, g5, g6] g13.toInt.toNat g21.toInt.toNat))) :: (a25, true, oXmlElement (vr a32) (vr a26) (vr a28) (vr a30) (vi 1) .null .null (vr a65)) :: (a33, false, oString (vr a34) (vi 0)) :: (a34, false, ar "" .byte []) :: (a32, true, oArrayList (vi 0) (vr (og1 Z))) :: (a30, false, oString (vr a31) (vi 0)) :: (a31, false, ar "" .byte [(vi 101)]) :: []) rfl rfl ?_
           refine W.front 16 (D' := (a31, false, ar "" .byte [(vi 101)]) :: (a28, false, oString (vr a29) (vi 0)) :: (a29, false, ar "" .byte [(vi 101)]) :: (a26, false, oString (vr a27) (vi 0)) :: (a27, false, ar "" .byte []) :: (a2, true, ar "[C" .char [(vi g3), (vi g4), (vi g5), (vi g6)]) :: (a7, true, ar "[C" .char [(vi g8), (vi g9), (vi g10), (vi g11)]) :: (a65, true, oStringBuilder (vr a74) (vi 0) (vi (((0 : Int32) + g21) + g22))) :: (a74, true, ar "[B" .byte (lm (put (cpl (put (List.replicate g21.toInt.toNat (0 : Int32)) (0 : Int32).toInt.toNat [g3, g4, g5, g6] g13.toInt.toNat g21.toInt.toNat) (0 : Int32).toInt.toNat (List.replicate (g21 + (g21 + (2 : Int32))).toInt.toNat (0 : Int32)) (0 : Int32).toInt.toNat g21.toInt.toNat) ((0 : Int32) + g21).toInt.toNat [g8, g9, g10, g11] g15.toInt.toNat g22.toInt.toNat))) :: (a85, true, oString (vr a86) (vi 0)) :: (a86, true, ar "[B" .byte (lm (cpl (put (cpl (put (List.replicate g21.toInt.toNat (0 : Int32)) (0 : Int32).toInt.toNat [g3, g4, g5, g6] g13.toInt.toNat g21.toInt.toNat) (0 : Int32).toInt.toNat (List.replicate (g21 + (g21 + (2 : Int32))).toInt.toNat (0 : Int32)) (0 : Int32).toInt.toNat g21.toInt.toNat) ((0 : Int32) + g21).toInt.toNat [g8, g9, g10, g11] g15.toInt.toNat g22.toInt.toNat) (0 : Int32).toInt.toNat (List.replicate (((0 : Int32) + g21) + g22).toInt.toNat (0 : Int32)) (0 : Int32).toInt.toNat (((0 : Int32) + g21) + g22).toInt.toNat))) :: (a66, true, ar "[B" .byte (lm (put (List.replicate g21.toInt.toNat (0 : Int32)) (0 : Int32).toInt.toNat [g3, g4, g5, g6] g13.toInt.toNat g21.toInt.toNat))) :: (a25, true, oXmlElement (vr a32) (vr a26) (vr a28) (vr a30) (vi 1) .null .null (vr a65)) :: (a33, false, oString (vr a34) (vi 0)) :: (a34, false, ar "" .byte []) :: (a32, true, oArrayList (vi 0) (vr (og1 Z))) :: (a30, false, oString (vr a31) (vi 0)) :: []) rfl rfl ?_
           refine W.front 16 (D' := (a30, false, oString (vr a31) (vi 0)) :: (a31, false, ar "" .byte [(vi 101)]) :: (a28, false, oString (vr a29) (vi 0)) :: (a29, false, ar "" .byte [(vi 101)]) :: (a26, false, oString (vr a27) (vi 0)) :: (a27, false, ar "" .byte []) :: (a2, true, ar "[C" .char [(vi g3), (vi g4), (vi g5), (vi g6)]) :: (a7, true, ar "[C" .char [(vi g8), (vi g9), (vi g10), (vi g11)]) :: (a65, true, oStringBuilder (vr a74) (vi 0) (vi (((0 : Int32) + g21) + g22))) :: (a74, true, ar "[B" .byte (lm (put (cpl (put (List.replicate g21.toInt.toNat (0 : Int32)) (0 : Int32).toInt.toNat [g3, g4, g5, g6] g13.toInt.toNat g21.toInt.toNat) (0 : Int32).toInt.toNat (List.replicate (g21 + (g21 + (2 : Int32))).toInt.toNat (0 : Int32)) (0 : Int32).toInt.toNat g21.toInt.toNat) ((0 : Int32) + g21).toInt.toNat [g8, g9, g10, g11] g15.toInt.toNat g22.toInt.toNat))) :: (a85, true, oString (vr a86) (vi 0)) :: (a86, true, ar "[B" .byte (lm (cpl (put (cpl (put (List.replicate g21.toInt.toNat (0 : Int32)) (0 : Int32).toInt.toNat [g3, g4, g5, g6] g13.toInt.toNat g21.toInt.toNat) (0 : Int32).toInt.toNat (List.replicate (g21 + (g21 + (2 : Int32))).toInt.toNat (0 : Int32)) (0 : Int32).toInt.toNat g21.toInt.toNat) ((0 : Int32) + g21).toInt.toNat [g8, g9, g10, g11] g15.toInt.toNat g22.toInt.toNat) (0 : Int32).toInt.toNat (List.replicate (((0 : Int32) + g21) + g22).toInt.toNat (0 : Int32)) (0 : Int32).toInt.toNat (((0 : Int32) + g21) + g22).toInt.toNat))) :: (a66, true, ar "[B" .byte (lm (put (List.replicate g21.toInt.toNat (0 : Int32)) (0 : Int32).toInt.toNat [g3, g4, g5, g6] g13.toInt.toNat g21.toInt.toNat))) :: (a25, true, oXmlElement (vr a32) (vr a26) (vr a28) (vr a30) (vi 1) .null .null (vr a65)) :: (a33, false, oString (vr a34) (vi 0)) :: (a34, false, ar "" .byte []) :: (a32, true, oArrayList (vi 0) (vr (og1 Z))) :: []) rfl rfl ?_
           refine W.front 13 (D' := (a25, true, oXmlElement (vr a32) (vr a26) (vr a28) (vr a30) (vi 1) .null .null (vr a65)) :: (a30, false, oString (vr a31) (vi 0)) :: (a31, false, ar "" .byte [(vi 101)]) :: (a28, false, oString (vr a29) (vi 0)) :: (a29, false, ar "" .byte [(vi 101)]) :: (a26, false, oString (vr a27) (vi 0)) :: (a27, false, ar "" .byte []) :: (a2, true, ar "[C" .char [(vi g3), (vi g4), (vi g5), (vi g6)]) :: (a7, true, ar "[C" .char [(vi g8), (vi g9), (vi g10), (vi g11)]) :: (a65, true, oStringBuilder (vr a74) (vi 0) (vi (((0 : Int32) + g21) + g22))) :: (a74, true, ar "[B" .byte (lm (put (cpl (put (List.replicate g21.toInt.toNat (0 : Int32)) (0 : Int32).toInt.toNat [g3, g4, g5, g6] g13.toInt.toNat g21.toInt.toNat) (0 : Int32).toInt.toNat (List.replicate (g21 + (g21 + (2 : Int32))).toInt.toNat (0 : Int32)) (0 : Int32).toInt.toNat g21.toInt.toNat) ((0 : Int32) + g21).toInt.toNat [g8, g9, g10, g11] g15.toInt.toNat g22.toInt.toNat))) :: (a85, true, oString (vr a86) (vi 0)) :: (a86, true, ar "[B" .byte (lm (cpl (put (cpl (put (List.replicate g21.toInt.toNat (0 : Int32)) (0 : Int32).toInt.toNat [g3, g4, g5, g6] g13.toInt.toNat g21.toInt.toNat) (0 : Int32).toInt.toNat (List.replicate (g21 + (g21 + (2 : Int32))).toInt.toNat (0 : Int32)) (0 : Int32).toInt.toNat g21.toInt.toNat) ((0 : Int32) + g21).toInt.toNat [g8, g9, g10, g11] g15.toInt.toNat g22.toInt.toNat) (0 : Int32).toInt.toNat (List.replicate (((0 : Int32) + g21) + g22).toInt.toNat (0 : Int32)) (0 : Int32).toInt.toNat (((0 : Int32) + g21) + g22).toInt.toNat))) :: (a66, true, ar "[B" .byte (lm (put (List.replicate g21.toInt.toNat (0 : Int32)) (0 : Int32).toInt.toNat [g3, g4, g5, g6] g13.toInt.toNat g21.toInt.toNat))) :: (a33, false, oString (vr a34) (vi 0)) :: (a34, false, ar "" .byte []) :: (a32, true, oArrayList (vi 0) (vr (og1 Z))) :: []) rfl rfl ?_
           refine W.front 16 (D' := (a32, true, oArrayList (vi 0) (vr (og1 Z))) :: (a25, true, oXmlElement (vr a32) (vr a26) (vr a28) (vr a30) (vi 1) .null .null (vr a65)) :: (a30, false, oString (vr a31) (vi 0)) :: (a31, false, ar "" .byte [(vi 101)]) :: (a28, false, oString (vr a29) (vi 0)) :: (a29, false, ar "" .byte [(vi 101)]) :: (a26, false, oString (vr a27) (vi 0)) :: (a27, false, ar "" .byte []) :: (a2, true, ar "[C" .char [(vi g3), (vi g4), (vi g5), (vi g6)]) :: (a7, true, ar "[C" .char [(vi g8), (vi g9), (vi g10), (vi g11)]) :: (a65, true, oStringBuilder (vr a74) (vi 0) (vi (((0 : Int32) + g21) + g22))) :: (a74, true, ar "[B" .byte (lm (put (cpl (put (List.replicate g21.toInt.toNat (0 : Int32)) (0 : Int32).toInt.toNat [g3, g4, g5, g6] g13.toInt.toNat g21.toInt.toNat) (0 : Int32).toInt.toNat (List.replicate (g21 + (g21 + (2 : Int32))).toInt.toNat (0 : Int32)) (0 : Int32).toInt.toNat g21.toInt.toNat) ((0 : Int32) + g21).toInt.toNat [g8, g9, g10, g11] g15.toInt.toNat g22.toInt.toNat))) :: (a85, true, oString (vr a86) (vi 0)) :: (a86, true, ar "[B" .byte (lm (cpl (put (cpl (put (List.replicate g21.toInt.toNat (0 : Int32)) (0 : Int32).toInt.toNat [g3, g4, g5, g6] g13.toInt.toNat g21.toInt.toNat) (0 : Int32).toInt.toNat (List.replicate (g21 + (g21 + (2 : Int32))).toInt.toNat (0 : Int32)) (0 : Int32).toInt.toNat g21.toInt.toNat) ((0 : Int32) + g21).toInt.toNat [g8, g9, g10, g11] g15.toInt.toNat g22.toInt.toNat) (0 : Int32).toInt.toNat (List.replicate (((0 : Int32) + g21) + g22).toInt.toNat (0 : Int32)) (0 : Int32).toInt.toNat (((0 : Int32) + g21) + g22).toInt.toNat))) :: (a66, true, ar "[B" .byte (lm (put (List.replicate g21.toInt.toNat (0 : Int32)) (0 : Int32).toInt.toNat [g3, g4, g5, g6] g13.toInt.toNat g21.toInt.toNat))) :: (a33, false, oString (vr a34) (vi 0)) :: (a34, false, ar "" .byte []) :: []) rfl rfl ?_
           refine W.front 16 (D' := (a34, false, ar "" .byte []) :: (a32, true, oArrayList (vi 0) (vr (og1 Z))) :: (a25, true, oXmlElement (vr a32) (vr a26) (vr a28) (vr a30) (vi 1) .null .null (vr a65)) :: (a30, false, oString (vr a31) (vi 0)) :: (a31, false, ar "" .byte [(vi 101)]) :: (a28, false, oString (vr a29) (vi 0)) :: (a29, false, ar "" .byte [(vi 101)]) :: (a26, false, oString (vr a27) (vi 0)) :: (a27, false, ar "" .byte []) :: (a2, true, ar "[C" .char [(vi g3), (vi g4), (vi g5), (vi g6)]) :: (a7, true, ar "[C" .char [(vi g8), (vi g9), (vi g10), (vi g11)]) :: (a65, true, oStringBuilder (vr a74) (vi 0) (vi (((0 : Int32) + g21) + g22))) :: (a74, true, ar "[B" .byte (lm (put (cpl (put (List.replicate g21.toInt.toNat (0 : Int32)) (0 : Int32).toInt.toNat [g3, g4, g5, g6] g13.toInt.toNat g21.toInt.toNat) (0 : Int32).toInt.toNat (List.replicate (g21 + (g21 + (2 : Int32))).toInt.toNat (0 : Int32)) (0 : Int32).toInt.toNat g21.toInt.toNat) ((0 : Int32) + g21).toInt.toNat [g8, g9, g10, g11] g15.toInt.toNat g22.toInt.toNat))) :: (a85, true, oString (vr a86) (vi 0)) :: (a86, true, ar "[B" .byte (lm (cpl (put (cpl (put (List.replicate g21.toInt.toNat (0 : Int32)) (0 : Int32).toInt.toNat [g3, g4, g5, g6] g13.toInt.toNat g21.toInt.toNat) (0 : Int32).toInt.toNat (List.replicate (g21 + (g21 + (2 : Int32))).toInt.toNat (0 : Int32)) (0 : Int32).toInt.toNat g21.toInt.toNat) ((0 : Int32) + g21).toInt.toNat [g8, g9, g10, g11] g15.toInt.toNat g22.toInt.toNat) (0 : Int32).toInt.toNat (List.replicate (((0 : Int32) + g21) + g22).toInt.toNat (0 : Int32)) (0 : Int32).toInt.toNat (((0 : Int32) + g21) + g22).toInt.toNat))) :: (a66, true, ar "[B" .byte (lm (put (List.replicate g21.toInt.toNat (0 : Int32)) (0 : Int32).toInt.toNat [g3, g4, g5, g6] g13.toInt.toNat g21.toInt.toNat))) :: (a33, false, oString (vr a34) (vi 0)) :: []) rfl rfl ?_
           refine W.front 16 (D' := (a33, false, oString (vr a34) (vi 0)) :: (a34, false, ar "" .byte []) :: (a32, true, oArrayList (vi 0) (vr (og1 Z))) :: (a25, true, oXmlElement (vr a32) (vr a26) (vr a28) (vr a30) (vi 1) .null .null (vr a65)) :: (a30, false, oString (vr a31) (vi 0)) :: (a31, false, ar "" .byte [(vi 101)]) :: (a28, false, oString (vr a29) (vi 0)) :: (a29, false, ar "" .byte [(vi 101)]) :: (a26, false, oString (vr a27) (vi 0)) :: (a27, false, ar "" .byte []) :: (a2, true, ar "[C" .char [(vi g3), (vi g4), (vi g5), (vi g6)]) :: (a7, true, ar "[C" .char [(vi g8), (vi g9), (vi g10), (vi g11)]) :: (a65, true, oStringBuilder (vr a74) (vi 0) (vi (((0 : Int32) + g21) + g22))) :: (a74, true, ar "[B" .byte (lm (put (cpl (put (List.replicate g21.toInt.toNat (0 : Int32)) (0 : Int32).toInt.toNat [g3, g4, g5, g6] g13.toInt.toNat g21.toInt.toNat) (0 : Int32).toInt.toNat (List.replicate (g21 + (g21 + (2 : Int32))).toInt.toNat (0 : Int32)) (0 : Int32).toInt.toNat g21.toInt.toNat) ((0 : Int32) + g21).toInt.toNat [g8, g9, g10, g11] g15.toInt.toNat g22.toInt.toNat))) :: (a85, true, oString (vr a86) (vi 0)) :: (a86, true, ar "[B" .byte (lm (cpl (put (cpl (put (List.replicate g21.toInt.toNat (0 : Int32)) (0 : Int32).toInt.toNat [g3, g4, g5, g6] g13.toInt.toNat g21.toInt.toNat) (0 : Int32).toInt.toNat (List.replicate (g21 + (g21 + (2 : Int32))).toInt.toNat (0 : Int32)) (0 : Int32).toInt.toNat g21.toInt.toNat) ((0 : Int32) + g21).toInt.toNat [g8, g9, g10, g11] g15.toInt.toNat g22.toInt.toNat) (0 : Int32).toInt.toNat (List.replicate (((0 : Int32) + g21) + g22).toInt.toNat (0 : Int32)) (0 : Int32).toInt.toNat (((0 : Int32) + g21) + g22).toInt.toNat))) :: (a66, true, ar "[B" .byte (lm (put (List.replicate g21.toInt.toNat (0 : Int32)) (0 : Int32).toInt.toNat [g3, g4, g5, g6] g13.toInt.toNat g21.toInt.toNat))) :: []) rfl rfl ?_
           refine W.heap (fun _ _ H => H.sub ((((((((((((((((((List.Sublist.refl _).cons _).cons_cons _).cons_cons _).cons_cons _).cons_cons _).cons_cons _).cons_cons _).cons_cons _).cons_cons _).cons_cons _).cons_cons _).cons_cons _).cons_cons _).cons_cons _).cons_cons _).cons_cons _).cons_cons _)) ?_
           exact W.mono (by decide) (by decide) (K64 a65 a74 (g21 + (g21 + (2 : Int32))) (put (cpl (put (List.replicate g21.toInt.toNat (0 : Int32)) (0 : Int32).toInt.toNat [g3, g4, g5, g6] g13.toInt.toNat g21.toInt.toNat) (0 : Int32).toInt.toNat (List.replicate (g21 + (g21 + (2 : Int32))).toInt.toNat (0 : Int32)) (0 : Int32).toInt.toNat g21.toInt.toNat) ((0 : Int32) + g21).toInt.toNat [g8, g9, g10, g11] g15.toInt.toNat g22.toInt.toNat) (((0 : Int32) + g21) + g22) g22 a85 a86 (((0 : Int32) + g21) + g22) (cpl (put (cpl (put (List.replicate g21.toInt.toNat (0 : Int32)) (0 : Int32).toInt.toNat [g3, g4, g5, g6] g13.toInt.toNat g21.toInt.toNat) (0 : Int32).toInt.toNat (List.replicate (g21 + (g21 + (2 : Int32))).toInt.toNat (0 : Int32)) (0 : Int32).toInt.toNat g21.toInt.toNat) ((0 : Int32) + g21).toInt.toNat [g8, g9, g10, g11] g15.toInt.toNat g22.toInt.toNat) (0 : Int32).toInt.toNat (List.replicate (((0 : Int32) + g21) + g22).toInt.toNat (0 : Int32)) (0 : Int32).toInt.toNat (((0 : Int32) + g21) + g22).toInt.toNat) (by have := q2; have := a_add g21 (2 : Int32); have := a_add g21 (g21 + (2 : Int32)); have := a_add g13 g21; have := q4; have := q0; have := a_add (0 : Int32) g21; have := a_sub ((0 : Int32) + g21) g21; have := a_add ((0 : Int32) + g21) g22; have := a_sub (((0 : Int32) + g21) + g22) g21; have := a_add g15 g22; omega) hl75 (by have := q0; have := a_add (0 : Int32) g21; have := a_add ((0 : Int32) + g21) g22; have := a_add g13 g21; have := q4; have := a_add g15 g22; have := a_sub ((0 : Int32) + g21) g21; have := a_sub (((0 : Int32) + g21) + g22) g21; have := q2; have := a_add g21 (2 : Int32); have := a_add g21 (g21 + (2 : Int32)); omega) hg22 (by have := q0; have := a_add (0 : Int32) g21; have := a_add ((0 : Int32) + g21) g22; have := a_add g13 g21; have := q4; have := a_add g15 g22; have := a_sub ((0 : Int32) + g21) g21; have := a_sub (((0 : Int32) + g21) + g22) g21; have := q2; have := a_add g21 (2 : Int32); have := a_add g21 (g21 + (2 : Int32)); omega) hl87 (by have := q0; have := a_add (0 : Int32) g21; have := a_add ((0 : Int32) + g21) g22; have := a_add g21 g22; have := q4; have := a_add g15 g22; have := a_add g13 g21; have := a_sub ((0 : Int32) + g21) g21; have := a_sub (((0 : Int32) + g21) + g22) g21; have := q2; have := a_add g21 (2 : Int32); have := a_add g21 (g21 + (2 : Int32)); omega) (by have := q0; have := a_add (0 : Int32) g21; have := a_add ((0 : Int32) + g21) g22; have := a_add g21 g22; have := q4; have := a_add g15 g22; have := a_add g13 g21; have := a_sub ((0 : Int32) + g21) g21; have := a_sub (((0 : Int32) + g21) + g22) g21; have := q2; have := a_add g21 (2 : Int32); have := a_add g21 (g21 + (2 : Int32)); omega) (by intro i k h1 h2 h3; have := q0; have := a_add (0 : Int32) g21; have := a_add ((0 : Int32) + g21) g22; have := a_add g21 g22; have := q4; have := a_add g15 g22; have := q2; have := a_add g21 (2 : Int32); have := a_add g21 (g21 + (2 : Int32)); have := a_add g13 g21; have := a_sub ((0 : Int32) + g21) g21; have := a_sub (((0 : Int32) + g21) + g22) g21; rw [sel_cpl0 (len_putI (len_cplI (len_putI (len_rep (z := g21) (by omega)) (len_q (k := 4) (z := (4 : Int32)) rfl (by decide)) (by omega)) (len_rep (z := (g21 + (g21 + (2 : Int32)))) (by omega)) (by omega)) (len_q (k := 4) (z := (4 : Int32)) rfl (by decide)) (by omega)) (len_rep (z := (((0 : Int32) + g21) + g22)) (by omega)) (by omega), sel_put_before (len_cplI (len_putI (len_rep (z := g21) (by omega)) (len_q (k := 4) (z := (4 : Int32)) rfl (by decide)) (by omega)) (len_rep (z := (g21 + (g21 + (2 : Int32)))) (by omega)) (by omega)) (len_q (k := 4) (z := (4 : Int32)) rfl (by decide)) (by omega), sel_cpl0 (len_putI (len_rep (z := g21) (by omega)) (len_q (k := 4) (z := (4 : Int32)) rfl (by decide)) (by omega)) (len_rep (z := (g21 + (g21 + (2 : Int32)))) (by omega)) (by omega), sel_put_in (k := k) (len_rep (z := g21) (by omega)) (len_q (k := 4) (z := (4 : Int32)) rfl (by decide)) (by omega), z_b255 (sel_b (bl4 hg3 hg4 hg5 hg6) (by decide) k)]) (by intro i k h1 h2 h3; have := q0; have := a_add (0 : Int32) g21; have := a_add ((0 : Int32) + g21) g22; have := a_add g21 g22; have := q4; have := a_add g15 g22; have := q2; have := a_add g21 (2 : Int32); have := a_add g21 (g21 + (2 : Int32)); have := a_add g13 g21; have := a_sub ((0 : Int32) + g21) g21; have := a_sub (((0 : Int32) + g21) + g22) g21; rw [sel_cpl0 (len_putI (len_cplI (len_putI (len_rep (z := g21) (by omega)) (len_q (k := 4) (z := (4 : Int32)) rfl (by decide)) (by omega)) (len_rep (z := (g21 + (g21 + (2 : Int32)))) (by omega)) (by omega)) (len_q (k := 4) (z := (4 : Int32)) rfl (by decide)) (by omega)) (len_rep (z := (((0 : Int32) + g21) + g22)) (by omega)) (by omega), sel_put_in (k := k) (len_cplI (len_putI (len_rep (z := g21) (by omega)) (len_q (k := 4) (z := (4 : Int32)) rfl (by decide)) (by omega)) (len_rep (z := (g21 + (g21 + (2 : Int32)))) (by omega)) (by omega)) (len_q (k := 4) (z := (4 : Int32)) rfl (by decide)) (by omega), z_b255 (sel_b (bl4 hg8 hg9 hg10 hg11) (by decide) k)]))
         ·
          have ih18 := f_le h18
          have ih19 := f_lt h19
          have ih20 := f_gt h20
          show W _ _ _ _ _ _ _ _ _ _ _ _ 254 _ []
          refine W.iload at_254 rfl ?_
          refine W.istore (ls' := #[iv z0, iv z1, iv z2, iv z3, iv z4, rv a2, rv a7, iv g13, iv g21, iv g15, iv g22, iv g18, iv g23, rv a25, rv a33, iv g21, iv g22, uu, uu]) at_256 rfl ?_
          refine W.aload 13 at_258 rfl rfl ?_
          refine W.callV (as := []) 0 [] at_260 (wq hw 57 rfl) (wq hw 58 rfl) (wq hw 60 rfl) (wq hw 60 rfl) (wq hw 59 rfl) (wq hw 3 rfl) (wq hw 61 rfl) (Hp.exa m3) (c26_text hw hs (hx1 := (by have := q0; have := a_add (0 : Int32) g21; have := a_add ((0 : Int32) + g21) g22; have := a_add g13 g21; have := q4; have := a_add g15 g22; have := a_sub ((0 : Int32) + g21) g21; have := a_sub (((0 : Int32) + g21) + g22) g21; have := q2; have := a_add g21 (2 : Int32); have := a_add g21 ((((0 : Int32) + g21) + g22) - g21); omega)) (hx2 := (by have := q0; have := a_add (0 : Int32) g21; have := a_add ((0 : Int32) + g21) g22; have := a_sub (((0 : Int32) + g21) + g22) g21; have := a_add g21 ((((0 : Int32) + g21) + g22) - g21); have := a_add g13 g21; have := q4; have := a_add g15 g22; have := a_sub ((0 : Int32) + g21) g21; have := q2; have := a_add g21 (2 : Int32); omega)) (hr0 := by have := q0; have := a_add (0 : Int32) g21; have := a_add ((0 : Int32) + g21) g22; have := a_sub (((0 : Int32) + g21) + g22) g21; have := a_add g21 ((((0 : Int32) + g21) + g22) - g21); have := a_add g13 g21; have := q4; have := a_add g15 g22; have := a_sub ((0 : Int32) + g21) g21; have := q2; have := a_add g21 (2 : Int32); omega) (l1 := (put (cpl (put (List.replicate g21.toInt.toNat (0 : Int32)) (0 : Int32).toInt.toNat [g3, g4, g5, g6] g13.toInt.toNat g21.toInt.toNat) (0 : Int32).toInt.toNat (List.replicate (g21 + ((((0 : Int32) + g21) + g22) - g21)).toInt.toNat (0 : Int32)) (0 : Int32).toInt.toNat g21.toInt.toNat) ((0 : Int32) + g21).toInt.toNat [g8, g9, g10, g11] g15.toInt.toNat g22.toInt.toNat)) (hl_l1 := hl77) (mp1 := m3) (mp6 := m1) (mp10 := m0)) (by decide) pd__Ljava_lang_String_ rfl rfl rfl rfl (by decide) (fun v D' h => ?_)
          rcases h with ⟨a88, a89, h27, rfl, rfl⟩ | ⟨a90, a91, h28, h29, hl92, rfl, rfl⟩
          ·
           have ih27 := t_eq h27
           show W _ _ _ _ _ _ _ _ _ _ _ _ 263 _ [(vr a88)]
           refine W.astore (ls' := #[iv z0, iv z1, iv z2, iv z3, iv z4, rv a2, rv a7, iv g13, iv g21, iv g15, iv g22, iv g18, iv g23, rv a25, rv a33, iv g21, iv g22, rv a88, uu]) at_263 rfl rfl ?_
           refine W.front 1 (D' := (a88, true, oString (vr a89) (vi 0)) :: (a89, true, ar "[B" .byte (lm (put (cpl (put (List.replicate g21.toInt.toNat (0 : Int32)) (0 : Int32).toInt.toNat [g3, g4, g5, g6] g13.toInt.toNat g21.toInt.toNat) (0 : Int32).toInt.toNat (List.replicate (g21 + ((((0 : Int32) + g21) + g22) - g21)).toInt.toNat (0 : Int32)) (0 : Int32).toInt.toNat g21.toInt.toNat) ((0 : Int32) + g21).toInt.toNat [g8, g9, g10, g11] g15.toInt.toNat g22.toInt.toNat))) :: (a76, true, ar "[B" .byte (lm (put (cpl (put (List.replicate g21.toInt.toNat (0 : Int32)) (0 : Int32).toInt.toNat [g3, g4, g5, g6] g13.toInt.toNat g21.toInt.toNat) (0 : Int32).toInt.toNat (List.replicate (g21 + ((((0 : Int32) + g21) + g22) - g21)).toInt.toNat (0 : Int32)) (0 : Int32).toInt.toNat g21.toInt.toNat) ((0 : Int32) + g21).toInt.toNat [g8, g9, g10, g11] g15.toInt.toNat g22.toInt.toNat))) :: (a65, true, oStringBuilder (vr a76) (vi 0) (vi (((0 : Int32) + g21) + g22))) :: (a66, true, ar "[B" .byte (lm (put (List.replicate g21.toInt.toNat (0 : Int32)) (0 : Int32).toInt.toNat [g3, g4, g5, g6] g13.toInt.toNat g21.toInt.toNat))) :: (a25, true, oXmlElement (vr a32) (vr a26) (vr a28) (vr a30) (vi 1) .null .null (vr a65)) :: (a33, false, oString (vr a34) (vi 0)) :: (a34, false, ar "" .byte []) :: (a32, true, oArrayList (vi 0) (vr (og1 Z))) :: (a30, false, oString (vr a31) (vi 0)) :: (a31, false, ar "" .byte [(vi 101)]) :: (a28, false, oString (vr a29) (vi 0)) :: (a29, false, ar "" .byte [(vi 101)]) :: (a26, false, oString (vr a27) (vi 0)) :: (a27, false, ar "" .byte []) :: (a2, true, ar "[C" .char [(vi g3), (vi g4), (vi g5), (vi g6)]) :: (a7, true, ar "[C" .char [(vi g8), (vi g9), (vi g10), (vi g11)]) :: []) rfl rfl ?_
           refine W.front 2 (D' := (a76, true, ar "[B" .byte (lm (put (cpl (put (List.replicate g21.toInt.toNat (0 : Int32)) (0 : Int32).toInt.toNat [g3, g4, g5, g6] g13.toInt.toNat g21.toInt.toNat) (0 : Int32).toInt.toNat (List.replicate (g21 + ((((0 : Int32) + g21) + g22) - g21)).toInt.toNat (0 : Int32)) (0 : Int32).toInt.toNat g21.toInt.toNat) ((0 : Int32) + g21).toInt.toNat [g8, g9, g10, g11] g15.toInt.toNat g22.toInt.toNat))) :: (a88, true, oString (vr a89) (vi 0)) :: (a89, true, ar "[B" .byte (lm (put (cpl (put (List.replicate g21.toInt.toNat (0 : Int32)) (0 : Int32).toInt.toNat [g3, g4, g5, g6] g13.toInt.toNat g21.toInt.toNat) (0 : Int32).toInt.toNat (List.replicate (g21 + ((((0 : Int32) + g21) + g22) - g21)).toInt.toNat (0 : Int32)) (0 : Int32).toInt.toNat g21.toInt.toNat) ((0 : Int32) + g21).toInt.toNat [g8, g9, g10, g11] g15.toInt.toNat g22.toInt.toNat))) :: (a65, true, oStringBuilder (vr a76) (vi 0) (vi (((0 : Int32) + g21) + g22))) :: (a66, true, ar "[B" .byte (lm (put (List.replicate g21.toInt.toNat (0 : Int32)) (0 : Int32).toInt.toNat [g3, g4, g5, g6] g13.toInt.toNat g21.toInt.toNat))) :: (a25, true, oXmlElement (vr a32) (vr a26) (vr a28) (vr a30) (vi 1) .null .null (vr a65)) :: (a33, false, oString (vr a34) (vi 0)) :: (a34, false, ar "" .byte []) :: (a32, true, oArrayList (vi 0) (vr (og1 Z))) :: (a30, false, oString (vr a31) (vi 0)) :: (a31, false, ar "" .byte [(vi 101)]) :: (a28, false, oString (vr a29) (vi 0)) :: (a29, false, ar "" .byte [(vi 101)]) :: (a26, false, oString (vr a27) (vi 0)) :: (a27, false, ar "" .byte []) :: (a2, true, ar "[C" .char [(vi g3), (vi g4), (vi g5), (vi g6)]) :: (a7, true, ar "[C" .char [(vi g8), (vi g9), (vi g10), (vi g11)]) :: []) rfl rfl ?_
           refine W.front 3 (D' := (a65, true, oStringBuilder (vr a76) (vi 0) (vi (((0 : Int32) + g21) + g22))) :: (a76, true, ar "[B" .byte (lm (put (cpl (put (List.replicate g21.toInt.toNat (0 : Int32)) (0 : Int32).toInt.toNat [g3, g4, g5, g6] g13.toInt.toNat g21.toInt.toNat) (0 : Int32).toInt.toNat (List.replicate (g21 + ((((0 : Int32) + g21) + g22) - g21)).toInt.toNat (0 : Int32)) (0 : Int32).toInt.toNat g21.toInt.toNat) ((0 : Int32) + g21).toInt.toNat [g8, g9, g10, g11] g15.toInt.toNat g22.toInt.toNat))) :: (a88, true, oString (vr a89) (vi 0)) :: (a89, true, ar "[B" .byte (lm (put (cpl (put (List.replicate g21.toInt.toNat (0 : Int32)) (0 : Int32).toInt.toNat [g3, g4, g5, g6] g13.toInt.toNat g21.toInt.toNat) (0 : Int32).toInt.toNat (List.replicate (g21 + ((((0 : Int32) + g21) + g22) - g21)).toInt.toNat (0 : Int32)) (0 : Int32).toInt.toNat g21.toInt.toNat) ((0 : Int32) + g21).toInt.toNat [g8, g9, g10, g11] g15.toInt.toNat g22.toInt.toNat))) :: (a66, true, ar "[B" .byte (lm (put (List.replicate g21.toInt.toNat (0 : Int32)) (0 : Int32).toInt.toNat [g3, g4, g5, g6] g13.toInt.toNat g21.toInt.toNat))) :: (a25, true, oXmlElement (vr a32) (vr a26) (vr a28) (vr a30) (vi 1) .null .null (vr a65)) :: (a33, false, oString (vr a34) (vi 0)) :: (a34, false, ar "" .byte []) :: (a32, true, oArrayList (vi 0) (vr (og1 Z))) :: (a30, false, oString (vr a31) (vi 0)) :: (a31, false, ar "" .byte [(vi 101)]) :: (a28, false, oString (vr a29) (vi 0)) :: (a29, false, ar "" .byte [(vi 101)]) :: (a26, false, oString (vr a27) (vi 0)) :: (a27, false, ar "" .byte []) :: (a2, true, ar "[C" .char [(vi g3), (vi g4), (vi g5), (vi g6)]) :: (a7, true, ar "[C" .char [(vi g8), (vi g9), (vi g10), (vi g11)]) :: []) rfl rfl ?_
           refine W.front 16 (D' := (a7, true, ar "[C" .char [(vi g8), (vi g9), (vi g10), (vi g11)]) :: (a65, true, oStringBuilder (vr a76) (vi 0) (vi (((0 : Int32) + g21) + g22))) :: (a76, true, ar "[B" .byte (lm (put (cpl (put (List.replicate g21.toInt.toNat (0 : Int32)) (0 : Int32).toInt.toNat [g3, g4, g5, g6] g13.toInt.toNat g21.toInt.toNat) (0 : Int32).toInt.toNat (List.replicate (g21 + ((((0 : Int32) + g21) + g22) - g21)).toInt.toNat (0 : Int32)) (0 : Int32).toInt.toNat g21.toInt.toNat) ((0 : Int32) + g21).toInt.toNat [g8, g9, g10, g11] g15.toInt.toNat g22.toInt.toNat))) :: (a88, true, oString (vr a89) (vi 0)) :: (a89, true, ar "[B" .byte (lm (put (cpl (put (List.replicate g21.toInt.toNat (0 : Int32)) (0 : Int32).toInt.toNat [g3, g4, g5, g6] g13.toInt.toNat g21.toInt.toNat) (0 : Int32).toInt.toNat (List.replicate (g21 + ((((0 : Int32) + g21) + g22) - g21)).toInt.toNat (0 : Int32)) (0 : Int32).toInt.toNat g21.toInt.toNat) ((0 : Int32) + g21).toInt.toNat [g8, g9, g10, g11] g15.toInt.toNat g22.toInt.toNat))) :: (a66, true, ar "[B" .byte (lm (put (List.replicate g21.toInt.toNat (0 : Int32)) (0 : Int32).toInt.toNat [g3, g4, g5, g6] g13.toInt.toNat g21.toInt.toNat))) :: (a25, true, oXmlElement (vr a32) (vr a26) (vr a28) (vr a30) (vi 1) .null .null (vr a65)) :: (a33, false, oString (vr a34) (vi 0)) :: (a34, false, ar "" .byte []) :: (a32, true, oArrayList (vi 0) (vr (og1 Z))) :: (a30, false, oString (vr a31) (vi 0)) :: (a31, false, ar "" .byte [(vi 101)]) :: (a28, false, oString (vr a29) (vi 0)) :: (a29, false, ar "" .byte [(vi 101)]) :: (a26, false, oString (vr a27) (vi 0)) :: (a27, false, ar "" .byte []) :: (a2, true, ar "[C" .char [(vi g3), (vi g4), (vi g5), (vi g6)]) :: []) rfl rfl ?_
           refine W.front 16 (D' := (a2, true, ar "[C" .char [(vi g3), (vi g4), (vi g5), (vi g6)]) :: (a7, true, ar "[C" .char [(vi g8), (vi g9), (vi g10), (vi g11)]) :: (a65, true, oStringBuilder (vr a76) (vi 0) (vi (((0 : Int32) + g21) + g22))) :: (a76, true, ar "[B" .byte (lm (put (cpl (put (List.replicate g21.toInt.toNat (0 : Int32)) (0 : Int32).toInt.toNat [g3, g4, g5, g6] g13.toInt.toNat g21.toInt.toNat) (0 : Int32).toInt.toNat (List.replicate (g21 + ((((0 : Int32) + g21) + g22) - g21)).toInt.toNat (0 : Int32)) (0 : Int32).toInt.toNat g21.toInt.toNat) ((0 : Int32) + g21).toInt.toNat [g8, g9, g10, g11] g15.toInt.toNat g22.toInt.toNat))) :: (a88, true, oString (vr a89) (vi 0)) :: (a89, true, ar "[B" .byte (lm (put (cpl (put (List.replicate g21.toInt.toNat (0 : Int32)) (0 : Int32).toInt.toNat [g3, g4, g5, g6] g13.toInt.toNat g21.toInt.toNat) (0 : Int32).toInt.toNat (List.replicate (g21 + ((((0 : Int32) + g21) + g22) - g21)).toInt.toNat (0 : Int32)) (0 : Int32).toInt.toNat g21.toInt.toNat) ((0 : Int32) + g21).toInt.toNat [g8, g9, g10, g11] g15.toInt.toNat g22.toInt.toNat))) :: (a66, true, ar "[B" .byte (lm (put (List.replicate g21.toInt.toNat (0 : Int32)) (0 : Int32).toInt.toNat [g3, g4, g5, g6] g13.toInt.toNat g21.toInt.toNat))) :: (a25, true, oXmlElement (vr a32) (vr a26) (vr a28) (vr a30) (vi 1) .null .null (vr a65)) :: (a33, false, oString (vr a34) (vi 0)) :: (a34, false, ar "" .byte []) :: (a32, true, oArrayList (vi 0) (vr (og1 Z))) :: (a30, false, oString (vr a31) (vi 0)) :: (a31, false, ar "" .byte [(vi 101)]) :: (a28, false, oString (vr a29) (vi 0)) :: (a29, false, ar "" .byte [(vi 101)]) :: (a26, false, oString (vr a27) (vi 0)) :: (a27, false, ar "" .byte []) :: []) rfl rfl ?_
           refine W.front 16 (D' := (a27, false, ar "" .byte []) :: (a2, true, ar "[C" .char [(vi g3), (vi g4), (vi g5), (vi g6)]) :: (a7, true, ar "[C" .char [(vi g8), (vi g9), (vi g10), (vi g11)]) :: (a65, true, oStringBuilder (vr a76) (vi 0) (vi (((0 : Int32) + g21) + g22))) :: (a76, true, ar "[B" .byte (lm (put (cpl (put (List.replicate g21.toInt.toNat (0 : Int32)) (0 : Int32).toInt.toNat [g3, g4, g5, g6] g13.toInt.toNat g21.toInt.toNat) (0 : Int32).toInt.toNat (List.replicate (g21 + ((((0 : Int32) + g21) + g22) - g21)).toInt.toNat (0 : Int32)) (0 : Int32).toInt.toNat g21.toInt.toNat) ((0 : Int32) + g21).toInt.toNat [g8, g9, g10, g11] g15.toInt.toNat g22.toInt.toNat))) :: (a88, true, oString (vr a89) (vi 0)) :: (a89, true, ar "[B" .byte (lm (put (cpl (put (List.replicate g21.toInt.toNat (0 : Int32)) (0 : Int32).toInt.toNat [g3, g4, g5, g6] g13.toInt.toNat g21.toInt.toNat) (0 : Int32).toInt.toNat (List.replicate (g21 + ((((0 : Int32) + g21) + g22) - g21)).toInt.toNat (0 : Int32)) (0 : Int32).toInt.toNat g21.toInt.toNat) ((0 : Int32) + g21).toInt.toNat [g8, g9, g10, g11] g15.toInt.toNat g22.toInt.toNat))) :: (a66, true, ar "[B" .byte (lm (put (List.replicate g21.toInt.toNat (0 : Int32)) (0 : Int32).toInt.toNat [g3, g4, g5, g6] g13.toInt.toNat g21.toInt.toNat))) :: (a25, true, oXmlElement (vr a32) (vr a26) (vr a28) (vr a30) (vi 1) .null .null (vr a65)) :: (a33, false, oString (vr a34) (vi 0)) :: (a34, false, ar "" .byte []) :: (a32, true, oArrayList (vi 0) (vr (og1 Z))) :: (a30, false, oString (vr a31) (vi 0)) :: (a31, false, ar "" .byte [(vi 101)]) :: (a28, false, oString (vr a29) (vi 0)) :: (a29, false, ar "" .byte [(vi 101)]) :: (a26, false, oString (vr a27) (vi 0)) :: []) rfl rfl ?_
           refine W.front 16 (D' := (a26, false, oString (vr a27) (vi 0)) :: (a27, false, ar "" .byte []) :: (a2, true, ar "[C" .char [(vi g3), (vi g4), (vi g5), (vi g6)]) :: (a7, true, ar "[C" .char [(vi g8), (vi g9), (vi g10), (vi g11)]) :: (a65, true, oStringBuilder (vr a76) (vi 0) (vi (((0 : Int32) + g21) + g22))) :: (a76, true, ar "[B" .byte (lm (put (cpl (put (List.replicate g21.toInt.toNat (0 : Int32)) (0 : Int32).toInt.toNat [g3, g4, g5, g6] g13.toInt.toNat g21.toInt.toNat) (0 : Int32).toInt.toNat (List.replicate (g21 + ((((0 : Int32) + g21) + g22) - g21)).toInt.toNat (0 : Int32)) (0 : Int32).toInt.toNat g21.toInt.toNat) ((0 : Int32) + g21).toInt.toNat [g8, g9, g10, g11] g15.toInt.toNat g22.toInt.toNat))) :: (a88, true, oString (vr a89) (vi 0)) :: (a89, true, ar "[B" .byte (lm (put (cpl (put (List.replicate g21.toInt.toNat (0 : Int32)) (0 : Int32).toInt.toNat [g3, g4, g5, g6] g13.toInt.toNat g21.toInt.toNat) (0 : Int32).toInt.toNat (List.replicate (g21 + ((((0 : Int32) + g21) + g22) - g21)).toInt.toNat (0 : Int32)) (0 : Int32).toInt.toNat g21.toInt.toNat) ((0 : Int32) + g21).toInt.toNat [g8, g9, g10, g11] g15.toInt.toNat g22.toInt.toNat))) :: (a66, true, ar "[B" .byte (lm (put (List.replicate g21.toInt.toNat (0 : Int32)) (0 : Int32).toInt.toNat [g3, g4, g5, g6] g13.toInt.toNat g21.toInt.toNat))) :: (a25, true, oXmlElement (vr a32) (vr a26) (vr a28) (vr a30) (vi 1) .null .null (vr a65)) :: (a33, false, oString (vr a34) (vi 0)) :: (a34, false, ar "" .byte []) :: (a32, true, oArrayList (vi 0) (vr (og1 Z))) :: (a30, false, oString (vr a31) (vi 0)) :: (a31, false, ar "" .byte [(vi 101)]) :: (a28, false, oString (vr a29) (vi 0)) :: (a29, false, ar "" .byte [(vi 101)]) :: []) rfl rfl ?_
           refine W.front 16 (D' := (a29, false, ar "" .byte [(vi 101)]) :: (a26, false, oString (vr a27) (vi 0)) :: (a27, false, ar "" .byte []) :: (a2, true, ar "[C" .char [(vi g3), (vi g4), (vi g5), (vi g6)]) :: (a7, true, ar "[C" .char [(vi g8), (vi g9), (vi g10), (vi g11)]) :: (a65, true, oStringBuilder (vr a76) (vi 0) (vi (((0 : Int32) + g21) + g22))) :: (a76, true, ar "[B" .byte (lm (put (cpl (put (List.replicate g21.toInt.toNat (0 : Int32)) (0 : Int32).toInt.toNat [g3, g4, g5, g6] g13.toInt.toNat g21.toInt.toNat) (0 : Int32).toInt.toNat (List.replicate (g21 + ((((0 : Int32) + g21) + g22) - g21)).toInt.toNat (0 : Int32)) (0 : Int32).toInt.toNat g21.toInt.toNat) ((0 : Int32) + g21).toInt.toNat [g8, g9, g10, g11] g15.toInt.toNat g22.toInt.toNat))) :: (a88, true, oString (vr a89) (vi 0)) :: (a89, true, ar "[B" .byte (lm (put (cpl (put (List.replicate g21.toInt.toNat (0 : Int32)) (0 : Int32).toInt.toNat [g3, g4, g5, g6] g13.toInt.toNat g21.toInt.toNat) (0 : Int32).toInt.toNat (List.replicate (g21 + ((((0 : Int32) + g21) + g22) - g21)).toInt.toNat (0 : Int32)) (0 : Int32).toInt.toNat g21.toInt.toNat) ((0 : Int32) + g21).toInt.toNat [g8, g9, g10, g11] g15.toInt.toNat g22.toInt.toNat))) :: (a66, true, ar "[B" .byte (lm (put (List.replicate g21.toInt.toNat (0 : Int32)) (0 : Int32).toInt.toNat [g3, g4, g5, g6] g13.toInt.toNat g21.toInt.toNat))) :: (a25, true, oXmlElement (vr a32) (vr a26) (vr a28) (vr a30) (vi 1) .null .null (vr a65)) :: (a33, false, oString (vr a34) (vi 0)) :: (a34, false, ar "" .byte []) :: (a32, true, oArrayList (vi 0) (vr (og1 Z))) :: (a30, false, oString (vr a31) (vi 0)) :: (a31, false, ar "" .byte [(vi 101)]) :: (a28, false, oString (vr a29) (vi 0)) :: []) rfl rfl ?_
           refine W.front 16 (D' := (a28, false, oString (vr a29) (vi 0)) :: (a29, false, ar "" .byte [(vi 101)]) :: (a26, false, oString (vr a27) (vi 0)) :: (a27, false, ar "" .byte []) :: (a2, true, ar "[C" .char [(vi g3), (vi g4), (vi g5), (vi g6)]) :: (a7, true, ar "[C" .char [(vi g8), (vi g9), (vi g10), (vi g11)]) :: (a65, true, oStringBuilder (vr a76) (vi 0) (vi (((0 : Int32) + g21) + g22))) :: (a76, true, ar "[B" .byte (lm (put (cpl (put (List.replicate g21.toInt.toNat (0 : Int32)) (0 : Int32).toInt.toNat [g3, g4, g5, g6] g13.toInt.toNat g21.toInt.toNat) (0 : Int32).toInt.toNat (List.replicate (g21 + ((((0 : Int32) + g21) + g22) - g21)).toInt.toNat (0 : Int32)) (0 : Int32).toInt.toNat g21.toInt.toNat) ((0 : Int32) + g21).toInt.toNat [g8, g9, g10, g11] g15.toInt.toNat g22.toInt.toNat))) :: (a88, true, oString (vr a89) (vi 0)) :: (a89, true, ar "[B" .byte (lm (put (cpl (put (List.replicate g21.toInt.toNat (0 : Int32)) (0 : Int32).toInt.toNat [g3, g4, g5, g6] g13.toInt.toNat g21.toInt.toNat) (0 : Int32).toInt.toNat (List.replicate (g21 + ((((0 : Int32) + g21) + g22) - g21)).toInt.toNat (0 : Int32)) (0 : Int32).toInt.toNat g21.toInt.toNat) ((0 : Int32) + g21).toInt.toNat [g8, g9, g10, g11] g15.toInt.toNat g22.toInt.toNat))) :: (a66, true, ar "[B" .byte (lm (put (List.replicate g21.toInt.toNat (0 : Int32)) (0 : Int32).toInt.toNat [g3, g4, g5, g6] g13.toInt.toNat g21.toInt.toNat))) :: (a25, true, oXmlElement (vr a32) (vr a26) (vr a28) (vr a30) (vi 1) .null .null (vr a65)) :: (a33, false, oString (vr a34) (vi 0)) :: (a34, false, ar "" .byte []) :: (a32, true, oArrayList (vi 0) (vr (og1 Z))) :: (a30, false, oString (vr a31) (vi 0)) :: (a31, false, ar "" .byte [(vi 101)]) :: []) rfl rfl ?_
           refine W.front 16 (D' := (a31, false, ar "" .byte [(vi 101)]) :: (a28, false, oString (vr a29) (vi 0)) :: (a29, false, ar "" .byte [(vi 101)]) :: (a26, false, oString (vr a27) (vi 0)) :: (a27, false, ar "" .byte []) :: (a2, true, ar "[C" .char [(vi g3), (vi g4), (vi g5), (vi g6)]) :: (a7, true, ar "[C" .char [(vi g8), (vi g9), (vi g10), (vi g11)]) :: (a65, true, oStringBuilder (vr a76) (vi 0) (vi (((0 : Int32) + g21) + g22))) :: (a76, true, ar "[B" .byte (lm (put (cpl (put (List.replicate g21.toInt.toNat (0 : Int32)) (0 : Int32).toInt.toNat [g3, g4, g5, g6] g13.toInt.toNat g21.toInt.toNat) (0 : Int32).toInt.toNat (List.replicate (g21 + ((((0 : Int32) + g21) + g22) - g21)).toInt.toNat (0 : Int32)) (0 : Int32).toInt.toNat g21.toInt.toNat) ((0 : Int32) + g21).toInt.toNat [g8, g9, g10, g11] g15.toInt.toNat g22.toInt.toNat))) :: (a88, true, oString (vr a89) (vi 0)) :: (a89, true, ar "[B" .byte (lm (put (cpl (put (List.replicate g21.toInt.toNat (0 : Int32)) (0 : Int32).toInt.toNat [g3, g4, g5, g6] g13.toInt.toNat g21.toInt.toNat) (0 : Int32).toInt.toNat (List.replicate (g21 + ((((0 : Int32) + g21) + g22) - g21)).toInt.toNat (0 : Int32)) (0 : Int32).toInt.toNat g21.toInt.toNat) ((0 : Int32) + g21).toInt.toNat [g8, g9, g10, g11] g15.toInt.toNat g22.toInt.toNat))) :: (a66, true, ar "[B" .byte (lm (put (List.replicate g21.toInt.toNat (0 : Int32)) (0 : Int32).toInt.toNat [g3, g4, g5, g6] g13.toInt.toNat g21.toInt.toNat))) :: (a25, true, oXmlElement (vr a32) (vr a26) (vr a28) (vr a30) (vi 1) .null .null (vr a65)) :: (a33, false, oString (vr a34) (vi 0)) :: (a34, false, ar "" .byte []) :: (a32, true, oArrayList (vi 0) (vr (og1 Z))) :: (a30, false, oString (vr a31) (vi 0)) :: []) rfl rfl ?_
           refine W.front 16 (D' := (a30, false, oString (vr a31) (vi 0)) :: (a31, false, ar "" .byte [(vi 101)]) :: (a28, false, oString (vr a29) (vi 0)) :: (a29, false, ar "" .byte [(vi 101)]) :: (a26, false, oString (vr a27) (vi 0)) :: (a27, false, ar "" .byte []) :: (a2, true, ar "[C" .char [(vi g3), (vi g4), (vi g5), (vi g6)]) :: (a7, true, ar "[C" .char [(vi g8), (vi g9), (vi g10), (vi g11)]) :: (a65, true, oStringBuilder (vr a76) (vi 0) (vi (((0 : Int32) + g21) + g22))) :: (a76, true, ar "[B" .byte (lm (put (cpl (put (List.replicate g21.toInt.toNat (0 : Int32)) (0 : Int32).toInt.toNat [g3, g4, g5, g6] g13.toInt.toNat g21.toInt.toNat) (0 : Int32).toInt.toNat (List.replicate (g21 + ((((0 : Int32) + g21) + g22) - g21)).toInt.toNat (0 : Int32)) (0 : Int32).toInt.toNat g21.toInt.toNat) ((0 : Int32) + g21).toInt.toNat [g8, g9, g10, g11] g15.toInt.toNat g22.toInt.toNat))) :: (a88, true, oString (vr a89) (vi 0)) :: (a89, true, ar "[B" .byte (lm (put (cpl (put (List.replicate g21.toInt.toNat (0 : Int32)) (0 : Int32).toInt.toNat [g3, g4, g5, g6] g13.toInt.toNat g21.toInt.toNat) (0 : Int32).toInt.toNat (List.replicate (g21 + ((((0 : Int32) + g21) + g22) - g21)).toInt.toNat (0 : Int32)) (0 : Int32).toInt.toNat g21.toInt.toNat) ((0 : Int32) + g21).toInt.toNat [g8, g9, g10, g11] g15.toInt.toNat g22.toInt.toNat))) :: (a66, true, ar "[B" .byte (lm (put (List.replicate g21.toInt.toNat (0 : Int32)) (0 : Int32).toInt.toNat [g3, g4, g5, g6] g13.toInt.toNat g21.toInt.toNat))) :: (a25, true, oXmlElement (vr a32) (vr a26) (vr a28) (vr a30) (vi 1) .null .null (vr a65)) :: (a33, false, oString (vr a34) (vi 0)) :: (a34, false, ar "" .byte []) :: (a32, true, oArrayList (vi 0) (vr (og1 Z))) :: []) rfl rfl ?_
           refine W.front 13 (D' := (a25, true, oXmlElement (vr a32) (vr a26) (vr a28) (vr a30) (vi 1) .null .null (vr a65)) :: (a30, false, oString (vr a31) (vi 0)) :: (a31, false, ar "" .byte [(vi 101)]) :: (a28, false, oString (vr a29) (vi 0)) :: (a29, false, ar "" .byte [(vi 101)]) :: (a26, false, oString (vr a27) (vi 0)) :: (a27, false, ar "" .byte []) :: (a2, true, ar "[C" .char [(vi g3), (vi g4), (vi g5), (vi g6)]) :: (a7, true, ar "[C" .char [(vi g8), (vi g9), (vi g10), (vi g11)]) :: (a65, true, oStringBuilder (vr a76) (vi 0) (vi (((0 : Int32) + g21) + g22))) :: (a76, true, ar "[B" .byte (lm (put (cpl (put (List.replicate g21.toInt.toNat (0 : Int32)) (0 : Int32).toInt.toNat [g3, g4, g5, g6] g13.toInt.toNat g21.toInt.toNat) (0 : Int32).toInt.toNat (List.replicate (g21 + ((((0 : Int32) + g21) + g22) - g21)).toInt.toNat (0 : Int32)) (0 : Int32).toInt.toNat g21.toInt.toNat) ((0 : Int32) + g21).toInt.toNat [g8, g9, g10, g11] g15.toInt.toNat g22.toInt.toNat))) :: (a88, true, oString (vr a89) (vi 0)) :: (a89, true, ar "[B" .byte (lm (put (cpl (put (List.replicate g21.toInt.toNat (0 : Int32)) (0 : Int32).toInt.toNat [g3, g4, g5, g6] g13.toInt.toNat g21.toInt.toNat) (0 : Int32).toInt.toNat (List.replicate (g21 + ((((0 : Int32) + g21) + g22) - g21)).toInt.toNat (0 : Int32)) (0 : Int32).toInt.toNat g21.toInt.toNat) ((0 : Int32) + g21).toInt.toNat [g8, g9, g10, g11] g15.toInt.toNat g22.toInt.toNat))) :: (a66, true, ar "[B" .byte (lm (put (List.replicate g21.toInt.toNat (0 : Int32)) (0 : Int32).toInt.toNat [g3, g4, g5, g6] g13.toInt.toNat g21.toInt.toNat))) :: (a33, false, oString (vr a34) (vi 0)) :: (a34, false, ar "" .byte []) :: (a32, true, oArrayList (vi 0) (vr (og1 Z))) :: []) rfl rfl ?_
           refine W.front 16 (D' := (a32, true, oArrayList (vi 0) (vr (og1 Z))) :: (a25, true, oXmlElement (vr a32) (vr a26) (vr a28) (vr a30) (vi 1) .null .null (vr a65)) :: (a30, false, oString (vr a31) (vi 0)) :: (a31, false, ar "" .byte [(vi 101)]) :: (a28, false, oString (vr a29) (vi 0)) :: (a29, false, ar "" .byte [(vi 101)]) :: (a26, false, oString (vr a27) (vi 0)) :: (a27, false, ar "" .byte []) :: (a2, true, ar "[C" .char [(vi g3), (vi g4), (vi g5), (vi g6)]) :: (a7, true, ar "[C" .char [(vi g8), (vi g9), (vi g10), (vi g11)]) :: (a65, true, oStringBuilder (vr a76) (vi 0) (vi (((0 : Int32) + g21) + g22))) :: (a76, true, ar "[B" .byte (lm (put (cpl (put (List.replicate g21.toInt.toNat (0 : Int32)) (0 : Int32).toInt.toNat [g3, g4, g5, g6] g13.toInt.toNat g21.toInt.toNat) (0 : Int32).toInt.toNat (List.replicate (g21 + ((((0 : Int32) + g21) + g22) - g21)).toInt.toNat (0 : Int32)) (0 : Int32).toInt.toNat g21.toInt.toNat) ((0 : Int32) + g21).toInt.toNat [g8, g9, g10, g11] g15.toInt.toNat g22.toInt.toNat))) :: (a88, true, oString (vr a89) (vi 0)) :: (a89, true, ar "[B" .byte (lm (put (cpl (put (List.replicate g21.toInt.toNat (0 : Int32)) (0 : Int32).toInt.toNat [g3, g4, g5, g6] g13.toInt.toNat g21.toInt.toNat) (0 : Int32).toInt.toNat (List.replicate (g21 + ((((0 : Int32) + g21) + g22) - g21)).toInt.toNat (0 : Int32)) (0 : Int32).toInt.toNat g21.toInt.toNat) ((0 : Int32) + g21).toInt.toNat [g8, g9, g10, g11] g15.toInt.toNat g22.toInt.toNat))) :: (a66, true, ar "[B" .byte (lm (put (List.replicate g21.toInt.toNat (0 : Int32)) (0 : Int32).toInt.toNat [g3, g4, g5, g6] g13.toInt.toNat g21.toInt.toNat))) :: (a33, false, oString (vr a34) (vi 0)) :: (a34, false, ar "" .byte []) :: []) rfl rfl ?_
           refine W.front 16 (D' := (a34, false, ar "" .byte []) :: (a32, true, oArrayList (vi 0) (vr (og1 Z))) :: (a25, true, oXmlElement (vr a32) (vr a26) (vr a28) (vr a30) (vi 1) .null .null (vr a65)) :: (a30, false, oString (vr a31) (vi 0)) :: (a31, false, ar "" .byte [(vi 101)]) :: (a28, false, oString (vr a29) (vi 0)) :: (a29, false, ar "" .byte [(vi 101)]) :: (a26, false, oString (vr a27) (vi 0)) :: (a27, false, ar "" .byte []) :: (a2, true, ar "[C" .char [(vi g3), (vi g4), (vi g5), (vi g6)]) :: (a7, true, ar "[C" .char [(vi g8), (vi g9), (vi g10), (vi g11)]) :: (a65, true, oStringBuilder (vr a76) (vi 0) (vi (((0 : Int32) + g21) + g22))) :: (a76, true, ar "[B" .byte (lm (put (cpl (put (List.replicate g21.toInt.toNat (0 : Int32)) (0 : Int32).toInt.toNat [g3, g4, g5, g6] g13.toInt.toNat g21.toInt.toNat) (0 : Int32).toInt.toNat (List.replicate (g21 + ((((0 : Int32) + g21) + g22) - g21)).toInt.toNat (0 : Int32)) (0 : Int32).toInt.toNat g21.toInt.toNat) ((0 : Int32) + g21).toInt.toNat [g8, g9, g10, g11] g15.toInt.toNat g22.toInt.toNat))) :: (a88, true, oString (vr a89) (vi 0)) :: (a89, true, ar "[B" .byte (lm (put (cpl (put (List.replicate g21.toInt.toNat (0 : Int32)) (0 : Int32).toInt.toNat [g3, g4, g5, g6] g13.toInt.toNat g21.toInt.toNat) (0 : Int32).toInt.toNat (List.replicate (g21 + ((((0 : Int32) + g21) + g22) - g21)).toInt.toNat (0 : Int32)) (0 : Int32).toInt.toNat g21.toInt.toNat) ((0 : Int32) + g21).toInt.toNat [g8, g9, g10, g11] g15.toInt.toNat g22.toInt.toNat))) :: (a66, true, ar "[B" .byte (lm (put (List.replicate g21.toInt.toNat (0 : Int32)) (0 : Int32).toInt.toNat [g3, g4, g5, g6] g13.toInt.toNat g21.toInt.toNat))) :: (a33, false, oString (vr a34) (vi 0)) :: []) rfl rfl ?_
           refine W.front 16 (D' := (a33, false, oString (vr a34) (vi 0)) :: (a34, false, ar "" .byte []) :: (a32, true, oArrayList (vi 0) (vr (og1 Z))) :: (a25, true, oXmlElement (vr a32) (vr a26) (vr a28) (vr a30) (vi 1) .null .null (vr a65)) :: (a30, false, oString (vr a31) (vi 0)) :: (a31, false, ar "" .byte [(vi 101)]) :: (a28, false, oString (vr a29) (vi 0)) :: (a29, false, ar "" .byte [(vi 101)]) :: (a26, false, oString (vr a27) (vi 0)) :: (a27, false, ar "" .byte []) :: (a2, true, ar "[C" .char [(vi g3), (vi g4), (vi g5), (vi g6)]) :: (a7, true, ar "[C" .char [(vi g8), (vi g9), (vi g10), (vi g11)]) :: (a65, true, oStringBuilder (vr a76) (vi 0) (vi (((0 : Int32) + g21) + g22))) :: (a76, true, ar "[B" .byte (lm (put (cpl (put (List.replicate g21.toInt.toNat (0 : Int32)) (0 : Int32).toInt.toNat [g3, g4, g5, g6] g13.toInt.toNat g21.toInt.toNat) (0 : Int32).toInt.toNat (List.replicate (g21 + ((((0 : Int32) + g21) + g22) - g21)).toInt.toNat (0 : Int32)) (0 : Int32).toInt.toNat g21.toInt.toNat) ((0 : Int32) + g21).toInt.toNat [g8, g9, g10, g11] g15.toInt.toNat g22.toInt.toNat))) :: (a88, true, oString (vr a89) (vi 0)) :: (a89, true, ar "[B" .byte (lm (put (cpl (put (List.replicate g21.toInt.toNat (0 : Int32)) (0 : Int32).toInt.toNat [g3, g4, g5, g6] g13.toInt.toNat g21.toInt.toNat) (0 : Int32).toInt.toNat (List.replicate (g21 + ((((0 : Int32) + g21) + g22) - g21)).toInt.toNat (0 : Int32)) (0 : Int32).toInt.toNat g21.toInt.toNat) ((0 : Int32) + g21).toInt.toNat [g8, g9, g10, g11] g15.toInt.toNat g22.toInt.toNat))) :: (a66, true, ar "[B" .byte (lm (put (List.replicate g21.toInt.toNat (0 : Int32)) (0 : Int32).toInt.toNat [g3, g4, g5, g6] g13.toInt.toNat g21.toInt.toNat))) :: []) rfl rfl ?_
           refine W.heap (fun _ _ H => H.sub ((((((((((((((((((List.Sublist.refl _).cons _).cons_cons _).cons_cons _).cons_cons _).cons_cons _).cons_cons _).cons_cons _).cons_cons _).cons_cons _).cons_cons _).cons_cons _).cons_cons _).cons_cons _).cons_cons _).cons_cons _).cons_cons _).cons_cons _)) ?_
           exact W.mono (by decide) (by decide) (K64 a65 a76 (g21 + ((((0 : Int32) + g21) + g22) - g21)) (put (cpl (put (List.replicate g21.toInt.toNat (0 : Int32)) (0 : Int32).toInt.toNat [g3, g4, g5, g6] g13.toInt.toNat g21.toInt.toNat) (0 : Int32).toInt.toNat (List.replicate (g21 + ((((0 : Int32) + g21) + g22) - g21)).toInt.toNat (0 : Int32)) (0 : Int32).toInt.toNat g21.toInt.toNat) ((0 : Int32) + g21).toInt.toNat [g8, g9, g10, g11] g15.toInt.toNat g22.toInt.toNat) (((0 : Int32) + g21) + g22) g22 a88 a89 (g21 + ((((0 : Int32) + g21) + g22) - g21)) (put (cpl (put (List.replicate g21.toInt.toNat (0 : Int32)) (0 : Int32).toInt.toNat [g3, g4, g5, g6] g13.toInt.toNat g21.toInt.toNat) (0 : Int32).toInt.toNat (List.replicate (g21 + ((((0 : Int32) + g21) + g22) - g21)).toInt.toNat (0 : Int32)) (0 : Int32).toInt.toNat g21.toInt.toNat) ((0 : Int32) + g21).toInt.toNat [g8, g9, g10, g11] g15.toInt.toNat g22.toInt.toNat) (by have := q0; have := a_add (0 : Int32) g21; have := a_add ((0 : Int32) + g21) g22; have := a_sub (((0 : Int32) + g21) + g22) g21; have := a_add g21 ((((0 : Int32) + g21) + g22) - g21); have := a_add g13 g21; have := q4; have := a_add g15 g22; have := a_sub ((0 : Int32) + g21) g21; have := q2; have := a_add g21 (2 : Int32); omega) hl77 (by have := q0; have := a_add (0 : Int32) g21; have := a_add ((0 : Int32) + g21) g22; have := a_add g13 g21; have := q4; have := a_add g15 g22; have := a_sub ((0 : Int32) + g21) g21; have := a_sub (((0 : Int32) + g21) + g22) g21; have := q2; have := a_add g21 (2 : Int32); have := a_add g21 ((((0 : Int32) + g21) + g22) - g21); omega) hg22 (by have := q0; have := a_add (0 : Int32) g21; have := a_add ((0 : Int32) + g21) g22; have := a_sub (((0 : Int32) + g21) + g22) g21; have := a_add g21 ((((0 : Int32) + g21) + g22) - g21); have := a_add g13 g21; have := q4; have := a_add g15 g22; have := a_sub ((0 : Int32) + g21) g21; have := q2; have := a_add g21 (2 : Int32); omega) hl77 (by have := q0; have := a_add (0 : Int32) g21; have := a_add ((0 : Int32) + g21) g22; have := a_sub (((0 : Int32) + g21) + g22) g21; have := a_add g21 ((((0 : Int32) + g21) + g22) - g21); have := a_add g21 g22; have := q4; have := a_add g15 g22; have := a_add g13 g21; have := a_sub ((0 : Int32) + g21) g21; have := q2; have := a_add g21 (2 : Int32); omega) (by have := q0; have := a_add (0 : Int32) g21; have := a_add ((0 : Int32) + g21) g22; have := a_sub (((0 : Int32) + g21) + g22) g21; have := a_add g21 ((((0 : Int32) + g21) + g22) - g21); have := a_add g21 g22; have := q4; have := a_add g15 g22; have := a_add g13 g21; have := a_sub ((0 : Int32) + g21) g21; have := q2; have := a_add g21 (2 : Int32); omega) (by intro i k h1 h2 h3; have := q0; have := a_add (0 : Int32) g21; have := a_add ((0 : Int32) + g21) g22; have := a_sub (((0 : Int32) + g21) + g22) g21; have := a_add g21 ((((0 : Int32) + g21) + g22) - g21); have := a_add g21 g22; have := q4; have := a_add g15 g22; have := a_add g13 g21; have := a_sub ((0 : Int32) + g21) g21; have := q2; have := a_add g21 (2 : Int32); rw [sel_put_before (len_cplI (len_putI (len_rep (z := g21) (by omega)) (len_q (k := 4) (z := (4 : Int32)) rfl (by decide)) (by omega)) (len_rep (z := (g21 + ((((0 : Int32) + g21) + g22) - g21))) (by omega)) (by omega)) (len_q (k := 4) (z := (4 : Int32)) rfl (by decide)) (by omega), sel_cpl0 (len_putI (len_rep (z := g21) (by omega)) (len_q (k := 4) (z := (4 : Int32)) rfl (by decide)) (by omega)) (len_rep (z := (g21 + ((((0 : Int32) + g21) + g22) - g21))) (by omega)) (by omega), sel_put_in (k := k) (len_rep (z := g21) (by omega)) (len_q (k := 4) (z := (4 : Int32)) rfl (by decide)) (by omega), z_b255 (sel_b (bl4 hg3 hg4 hg5 hg6) (by decide) k)]) (by intro i k h1 h2 h3; have := q0; have := a_add (0 : Int32) g21; have := a_add ((0 : Int32) + g21) g22; have := a_sub (((0 : Int32) + g21) + g22) g21; have := a_add g21 ((((0 : Int32) + g21) + g22) - g21); have := a_add g21 g22; have := q4; have := a_add g15 g22; have := a_add g13 g21; have := a_sub ((0 : Int32) + g21) g21; have := q2; have := a_add g21 (2 : Int32); rw [sel_put_in (k := k) (len_cplI (len_putI (len_rep (z := g21) (by omega)) (len_q (k := 4) (z := (4 : Int32)) rfl (by decide)) (by omega)) (len_rep (z := (g21 + ((((0 : Int32) + g21) + g22) - g21))) (by omega)) (by omega)) (len_q (k := 4) (z := (4 : Int32)) rfl (by decide)) (by omega), z_b255 (sel_b (bl4 hg8 hg9 hg10 hg11) (by decide) k)]))
          ·
           exact absurd h28 (Classical.not_not.mpr (y_eq (by have := q0; have := a_add (0 : Int32) g21; have := a_add ((0 : Int32) + g21) g22; have := a_sub (((0 : Int32) + g21) + g22) g21; have := a_add g21 ((((0 : Int32) + g21) + g22) - g21); have := a_add g13 g21; have := q4; have := a_add g15 g22; have := a_sub ((0 : Int32) + g21) g21; have := q2; have := a_add g21 (2 : Int32); omega)))
      refine W.iload at_158 rfl ?_
      refine W.iconst (2) at_160 (by decide) ?_
      refine W.iand at_161 ?_
      refine W.if 169 at_162 (by decide) (fun h30 => ?_) (fun h30 => ?_)
      ·
       have ih30 := t_eq h30
       refine W.iconst (0) at_169 (by decide) ?_
       refine W.istore (ls' := #[iv z0, iv z1, iv z2, iv z3, iv z4, rv a2, rv a7, iv g13, iv (((XT.ushr z2 (2 : Int32)) &&& (7 : Int32)) % ((5 : Int32) - g13)), iv g15, iv (((XT.ushr z3 (2 : Int32)) &&& (7 : Int32)) % ((5 : Int32) - g15)), iv g18, iv 0, uu, uu, uu, uu, uu, uu]) at_170 rfl ?_
       exact W.mono (by decide) (by decide) (K24 (((XT.ushr z2 (2 : Int32)) &&& (7 : Int32)) % ((5 : Int32) - g13)) (((XT.ushr z3 (2 : Int32)) &&& (7 : Int32)) % ((5 : Int32) - g15)) (0 : Int32) (by have := rng32 z2; have := q2; have := aushr_2 z2; have := q7; have := am_7 (XT.ushr z2 (2 : Int32)); have := q5; have := a_sub (5 : Int32) g13; have := c_iremV ((XT.ushr z2 (2 : Int32)) &&& (7 : Int32)) ((5 : Int32) - g13); omega) (by have := rng32 z3; have := q2; have := aushr_2 z3; have := q7; have := am_7 (XT.ushr z3 (2 : Int32)); have := q5; have := a_sub (5 : Int32) g15; have := c_iremV ((XT.ushr z3 (2 : Int32)) &&& (7 : Int32)) ((5 : Int32) - g15); omega) (by decide) (by have := rng32 z2; have := q2; have := aushr_2 z2; have := q7; have := am_7 (XT.ushr z2 (2 : Int32)); have := q5; have := a_sub (5 : Int32) g13; have := c_iremV ((XT.ushr z2 (2 : Int32)) &&& (7 : Int32)) ((5 : Int32) - g13); have := a_add g13 (((XT.ushr z2 (2 : Int32)) &&& (7 : Int32)) % ((5 : Int32) - g13)); have := q4; omega) (by have := rng32 z3; have := q2; have := aushr_2 z3; have := q7; have := am_7 (XT.ushr z3 (2 : Int32)); have := q5; have := a_sub (5 : Int32) g15; have := c_iremV ((XT.ushr z3 (2 : Int32)) &&& (7 : Int32)) ((5 : Int32) - g15); have := a_add g15 (((XT.ushr z3 (2 : Int32)) &&& (7 : Int32)) % ((5 : Int32) - g15)); have := q4; omega))
      ·
       have ih30 := f_eq h30
       refine W.iconst (1) at_165 (by decide) ?_
       refine W.goto 170 at_166 (by decide) ?_
       refine W.istore (ls' := #[iv z0, iv z1, iv z2, iv z3, iv z4, rv a2, rv a7, iv g13, iv (((XT.ushr z2 (2 : Int32)) &&& (7 : Int32)) % ((5 : Int32) - g13)), iv g15, iv (((XT.ushr z3 (2 : Int32)) &&& (7 : Int32)) % ((5 : Int32) - g15)), iv g18, iv 1, uu, uu, uu, uu, uu, uu]) at_170 rfl ?_
       exact W.mono (by decide) (by decide) (K24 (((XT.ushr z2 (2 : Int32)) &&& (7 : Int32)) % ((5 : Int32) - g13)) (((XT.ushr z3 (2 : Int32)) &&& (7 : Int32)) % ((5 : Int32) - g15)) (1 : Int32) (by have := rng32 z2; have := q2; have := aushr_2 z2; have := q7; have := am_7 (XT.ushr z2 (2 : Int32)); have := q5; have := a_sub (5 : Int32) g13; have := c_iremV ((XT.ushr z2 (2 : Int32)) &&& (7 : Int32)) ((5 : Int32) - g13); omega) (by have := rng32 z3; have := q2; have := aushr_2 z3; have := q7; have := am_7 (XT.ushr z3 (2 : Int32)); have := q5; have := a_sub (5 : Int32) g15; have := c_iremV ((XT.ushr z3 (2 : Int32)) &&& (7 : Int32)) ((5 : Int32) - g15); omega) (by decide) (by have := rng32 z2; have := q2; have := aushr_2 z2; have := q7; have := am_7 (XT.ushr z2 (2 : Int32)); have := q5; have := a_sub (5 : Int32) g13; have := c_iremV ((XT.ushr z2 (2 : Int32)) &&& (7 : Int32)) ((5 : Int32) - g13); have := a_add g13 (((XT.ushr z2 (2 : Int32)) &&& (7 : Int32)) % ((5 : Int32) - g13)); have := q4; omega) (by have := rng32 z3; have := q2; have := aushr_2 z3; have := q7; have := am_7 (XT.ushr z3 (2 : Int32)); have := q5; have := a_sub (5 : Int32) g15; have := c_iremV ((XT.ushr z3 (2 : Int32)) &&& (7 : Int32)) ((5 : Int32) - g15); have := a_add g15 (((XT.ushr z3 (2 : Int32)) &&& (7 : Int32)) % ((5 : Int32) - g15)); have := q4; omega))
     refine W.iload at_144 rfl ?_
     refine W.iconst (3) at_146 (by decide) ?_
     refine W.iand at_147 ?_
     refine W.if 155 at_148 (by decide) (fun h31 => ?_) (fun h31 => ?_)
     ·
      have ih31 := t_eq h31
      refine W.iconst (0) at_155 (by decide) ?_
      refine W.istore (ls' := #[iv z0, iv z1, iv z2, iv z3, iv z4, rv a2, rv a7, iv g13, iv (((XT.ushr z2 (2 : Int32)) &&& (7 : Int32)) % ((5 : Int32) - g13)), iv g15, iv (((XT.ushr z3 (2 : Int32)) &&& (7 : Int32)) % ((5 : Int32) - g15)), iv 0, uu, uu, uu, uu, uu, uu, uu]) at_156 rfl ?_
      exact W.mono (by decide) (by decide) (K19 (0 : Int32) (by decide))
     ·
      have ih31 := f_eq h31
      refine W.iconst (1) at_151 (by decide) ?_
      refine W.goto 156 at_152 (by decide) ?_
      refine W.istore (ls' := #[iv z0, iv z1, iv z2, iv z3, iv z4, rv a2, rv a7, iv g13, iv (((XT.ushr z2 (2 : Int32)) &&& (7 : Int32)) % ((5 : Int32) - g13)), iv g15, iv (((XT.ushr z3 (2 : Int32)) &&& (7 : Int32)) % ((5 : Int32) - g15)), iv 1, uu, uu, uu, uu, uu, uu, uu]) at_156 rfl ?_
      exact W.mono (by decide) (by decide) (K19 (1 : Int32) (by decide))
    exact K16 (z3 &&& (3 : Int32)) (by have := rng32 z3; have := q3; have := am_3 z3; omega)
   exact K14 (z2 &&& (3 : Int32)) (by have := rng32 z2; have := q3; have := am_3 z2; omega)
  refine W.iconst (4) at_0 (by decide) ?_
  refine W.newarr 4 (ad := "[C") (ty := .char) at_1 rfl (wq hw 0 rfl) ix4 rfl (by decide) (by decide) (fun a93 => ?_)
  show W _ _ _ _ _ _ _ _ _ _ _ _ 3 _ [(vr a93)]
  refine W.astore (ls' := #[iv z0, iv z1, iv z2, iv z3, iv z4, rv a93, uu, uu, uu, uu, uu, uu, uu, uu, uu, uu, uu, uu, uu]) at_3 rfl rfl ?_
  refine W.aload 5 at_5 rfl rfl ?_
  refine W.iconst (0) at_7 (by decide) ?_
  refine W.iloadN at_8 rfl ?_
  refine W.sipush (255) at_9 (by decide) ?_
  refine W.iand at_12 ?_
  refine W.i2cK (z0 &&& (255 : Int32)) at_13 (z_i2c (by have := rng32 z0; have := q255; have := am_255 z0; omega)) ?_
  refine W.castore (D' := (a93, true, ar "[C" .char [(vi (z0 &&& (255 : Int32))), (vi 0), (vi 0), (vi 0)]) :: []) 0 0 at_14 rfl ix0 (Nat.le_of_ble_eq_true rfl) (z_narC (by have := rng32 z0; have := q255; have := am_255 z0; omega)) rfl ?_
  refine W.aload 5 at_15 rfl rfl ?_
  refine W.iconst (1) at_17 (by decide) ?_
  refine W.iloadN at_18 rfl ?_
  refine W.bipush (8) at_19 (by decide) ?_
  refine W.iushr at_21 ?_
  refine W.sipush (255) at_22 (by decide) ?_
  refine W.iand at_25 ?_
  refine W.i2cK ((XT.ushr z0 (8 : Int32)) &&& (255 : Int32)) at_26 (z_i2c (by have := rng32 z0; have := q8; have := aushr_8 z0; have := q255; have := am_255 (XT.ushr z0 (8 : Int32)); omega)) ?_
  refine W.castore (D' := (a93, true, ar "[C" .char [(vi (z0 &&& (255 : Int32))), (vi ((XT.ushr z0 (8 : Int32)) &&& (255 : Int32))), (vi 0), (vi 0)]) :: []) 0 1 at_27 rfl ix1 (Nat.le_of_ble_eq_true rfl) (z_narC (by have := rng32 z0; have := q8; have := aushr_8 z0; have := q255; have := am_255 (XT.ushr z0 (8 : Int32)); omega)) rfl ?_
  refine W.aload 5 at_28 rfl rfl ?_
  refine W.iconst (2) at_30 (by decide) ?_
  refine W.iloadN at_31 rfl ?_
  refine W.bipush (16) at_32 (by decide) ?_
  refine W.iushr at_34 ?_
  refine W.sipush (255) at_35 (by decide) ?_
  refine W.iand at_38 ?_
  refine W.i2cK ((XT.ushr z0 (16 : Int32)) &&& (255 : Int32)) at_39 (z_i2c (by have := rng32 z0; have := q16; have := aushr_16 z0; have := q255; have := am_255 (XT.ushr z0 (16 : Int32)); omega)) ?_
  refine W.castore (D' := (a93, true, ar "[C" .char [(vi (z0 &&& (255 : Int32))), (vi ((XT.ushr z0 (8 : Int32)) &&& (255 : Int32))), (vi ((XT.ushr z0 (16 : Int32)) &&& (255 : Int32))), (vi 0)]) :: []) 0 2 at_40 rfl ix2 (Nat.le_of_ble_eq_true rfl) (z_narC (by have := rng32 z0; have := q16; have := aushr_16 z0; have := q255; have := am_255 (XT.ushr z0 (16 : Int32)); omega)) rfl ?_
  refine W.aload 5 at_41 rfl rfl ?_
  refine W.iconst (3) at_43 (by decide) ?_
  refine W.iloadN at_44 rfl ?_
  refine W.bipush (24) at_45 (by decide) ?_
  refine W.iushr at_47 ?_
  refine W.sipush (255) at_48 (by decide) ?_
  refine W.iandK (XT.ushr z0 (24 : Int32)) at_51 (z_and 8 256 (by decide) (by decide) (by decide) (by have := rng32 z0; have := q24; have := aushr_24 z0; omega)) ?_
  refine W.i2cK (XT.ushr z0 (24 : Int32)) at_52 (z_i2c (by have := rng32 z0; have := q24; have := aushr_24 z0; omega)) ?_
  refine W.castore (D' := (a93, true, ar "[C" .char [(vi (z0 &&& (255 : Int32))), (vi ((XT.ushr z0 (8 : Int32)) &&& (255 : Int32))), (vi ((XT.ushr z0 (16 : Int32)) &&& (255 : Int32))), (vi (XT.ushr z0 (24 : Int32)))]) :: []) 0 3 at_53 rfl ix3 (Nat.le_of_ble_eq_true rfl) (z_narC (by have := rng32 z0; have := q24; have := aushr_24 z0; omega)) rfl ?_
  refine W.iconst (4) at_54 (by decide) ?_
  refine W.newarr 4 (ad := "[C") (ty := .char) at_55 rfl (wq hw 0 rfl) ix4 rfl (by decide) (by decide) (fun a94 => ?_)
  show W _ _ _ _ _ _ _ _ _ _ _ _ 57 _ [(vr a94)]
  refine W.astore (ls' := #[iv z0, iv z1, iv z2, iv z3, iv z4, rv a93, rv a94, uu, uu, uu, uu, uu, uu, uu, uu, uu, uu, uu, uu]) at_57 rfl rfl ?_
  refine W.aload 6 at_59 rfl rfl ?_
  refine W.iconst (0) at_61 (by decide) ?_
  refine W.iloadN at_62 rfl ?_
  refine W.sipush (255) at_63 (by decide) ?_
  refine W.iand at_66 ?_
  refine W.i2cK (z1 &&& (255 : Int32)) at_67 (z_i2c (by have := rng32 z1; have := q255; have := am_255 z1; omega)) ?_
  refine W.castore (D' := (a94, true, ar "[C" .char [(vi (z1 &&& (255 : Int32))), (vi 0), (vi 0), (vi 0)]) :: (a93, true, ar "[C" .char [(vi (z0 &&& (255 : Int32))), (vi ((XT.ushr z0 (8 : Int32)) &&& (255 : Int32))), (vi ((XT.ushr z0 (16 : Int32)) &&& (255 : Int32))), (vi (XT.ushr z0 (24 : Int32)))]) :: []) 0 0 at_68 rfl ix0 (Nat.le_of_ble_eq_true rfl) (z_narC (by have := rng32 z1; have := q255; have := am_255 z1; omega)) rfl ?_
  refine W.aload 6 at_69 rfl rfl ?_
  refine W.iconst (1) at_71 (by decide) ?_
  refine W.iloadN at_72 rfl ?_
  refine W.bipush (8) at_73 (by decide) ?_
  refine W.iushr at_75 ?_
  refine W.sipush (255) at_76 (by decide) ?_
  refine W.iand at_79 ?_
  refine W.i2cK ((XT.ushr z1 (8 : Int32)) &&& (255 : Int32)) at_80 (z_i2c (by have := rng32 z1; have := q8; have := aushr_8 z1; have := q255; have := am_255 (XT.ushr z1 (8 : Int32)); omega)) ?_
  refine W.castore (D' := (a94, true, ar "[C" .char [(vi (z1 &&& (255 : Int32))), (vi ((XT.ushr z1 (8 : Int32)) &&& (255 : Int32))), (vi 0), (vi 0)]) :: (a93, true, ar "[C" .char [(vi (z0 &&& (255 : Int32))), (vi ((XT.ushr z0 (8 : Int32)) &&& (255 : Int32))), (vi ((XT.ushr z0 (16 : Int32)) &&& (255 : Int32))), (vi (XT.ushr z0 (24 : Int32)))]) :: []) 0 1 at_81 rfl ix1 (Nat.le_of_ble_eq_true rfl) (z_narC (by have := rng32 z1; have := q8; have := aushr_8 z1; have := q255; have := am_255 (XT.ushr z1 (8 : Int32)); omega)) rfl ?_
  refine W.aload 6 at_82 rfl rfl ?_
  refine W.iconst (2) at_84 (by decide) ?_
  refine W.iloadN at_85 rfl ?_
  refine W.bipush (16) at_86 (by decide) ?_
  refine W.iushr at_88 ?_
  refine W.sipush (255) at_89 (by decide) ?_
  refine W.iand at_92 ?_
  refine W.i2cK ((XT.ushr z1 (16 : Int32)) &&& (255 : Int32)) at_93 (z_i2c (by have := rng32 z1; have := q16; have := aushr_16 z1; have := q255; have := am_255 (XT.ushr z1 (16 : Int32)); omega)) ?_
  refine W.castore (D' := (a94, true, ar "[C" .char [(vi (z1 &&& (255 : Int32))), (vi ((XT.ushr z1 (8 : Int32)) &&& (255 : Int32))), (vi ((XT.ushr z1 (16 : Int32)) &&& (255 : Int32))), (vi 0)]) :: (a93, true, ar "[C" .char [(vi (z0 &&& (255 : Int32))), (vi ((XT.ushr z0 (8 : Int32)) &&& (255 : Int32))), (vi ((XT.ushr z0 (16 : Int32)) &&& (255 : Int32))), (vi (XT.ushr z0 (24 : Int32)))]) :: []) 0 2 at_94 rfl ix2 (Nat.le_of_ble_eq_true rfl) (z_narC (by have := rng32 z1; have := q16; have := aushr_16 z1; have := q255; have := am_255 (XT.ushr z1 (16 : Int32)); omega)) rfl ?_
  refine W.aload 6 at_95 rfl rfl ?_
  refine W.iconst (3) at_97 (by decide) ?_
  refine W.iloadN at_98 rfl ?_
  refine W.bipush (24) at_99 (by decide) ?_
  refine W.iushr at_101 ?_
  refine W.sipush (255) at_102 (by decide) ?_
  refine W.iandK (XT.ushr z1 (24 : Int32)) at_105 (z_and 8 256 (by decide) (by decide) (by decide) (by have := rng32 z1; have := q24; have := aushr_24 z1; omega)) ?_
  refine W.i2cK (XT.ushr z1 (24 : Int32)) at_106 (z_i2c (by have := rng32 z1; have := q24; have := aushr_24 z1; omega)) ?_
  refine W.castore (D' := (a94, true, ar "[C" .char [(vi (z1 &&& (255 : Int32))), (vi ((XT.ushr z1 (8 : Int32)) &&& (255 : Int32))), (vi ((XT.ushr z1 (16 : Int32)) &&& (255 : Int32))), (vi (XT.ushr z1 (24 : Int32)))]) :: (a93, true, ar "[C" .char [(vi (z0 &&& (255 : Int32))), (vi ((XT.ushr z0 (8 : Int32)) &&& (255 : Int32))), (vi ((XT.ushr z0 (16 : Int32)) &&& (255 : Int32))), (vi (XT.ushr z0 (24 : Int32)))]) :: []) 0 3 at_107 rfl ix3 (Nat.le_of_ble_eq_true rfl) (z_narC (by have := rng32 z1; have := q24; have := aushr_24 z1; omega)) rfl ?_
  refine W.front 1 (D' := (a93, true, ar "[C" .char [(vi (z0 &&& (255 : Int32))), (vi ((XT.ushr z0 (8 : Int32)) &&& (255 : Int32))), (vi ((XT.ushr z0 (16 : Int32)) &&& (255 : Int32))), (vi (XT.ushr z0 (24 : Int32)))]) :: (a94, true, ar "[C" .char [(vi (z1 &&& (255 : Int32))), (vi ((XT.ushr z1 (8 : Int32)) &&& (255 : Int32))), (vi ((XT.ushr z1 (16 : Int32)) &&& (255 : Int32))), (vi (XT.ushr z1 (24 : Int32)))]) :: []) rfl rfl ?_
  exact W.mono (by decide) (by decide) (K12 a93 (z0 &&& (255 : Int32)) ((XT.ushr z0 (8 : Int32)) &&& (255 : Int32)) ((XT.ushr z0 (16 : Int32)) &&& (255 : Int32)) (XT.ushr z0 (24 : Int32)) a94 (z1 &&& (255 : Int32)) ((XT.ushr z1 (8 : Int32)) &&& (255 : Int32)) ((XT.ushr z1 (16 : Int32)) &&& (255 : Int32)) (XT.ushr z1 (24 : Int32)) (by have := rng32 z0; have := q255; have := am_255 z0; omega) (by have := rng32 z0; have := q8; have := aushr_8 z0; have := q255; have := am_255 (XT.ushr z0 (8 : Int32)); omega) (by have := rng32 z0; have := q16; have := aushr_16 z0; have := q255; have := am_255 (XT.ushr z0 (16 : Int32)); omega) (by have := rng32 z0; have := q24; have := aushr_24 z0; omega) (by have := rng32 z1; have := q255; have := am_255 z1; omega) (by have := rng32 z1; have := q8; have := aushr_8 z1; have := q255; have := am_255 (XT.ushr z1 (8 : Int32)); omega) (by have := rng32 z1; have := q16; have := aushr_16 z1; have := q255; have := am_255 (XT.ushr z1 (16 : Int32)); omega) (by have := rng32 z1; have := q24; have := aushr_24 z1; omega))
set_option maxRecDepth 65536 in
set_option maxHeartbeats 4000000 in
theorem comes_1 {Post : Tables → Env → Array Value → State → Outcome → State → Prop} (hpost : ∀ tb e args s v u, (limb_1_1.after args s (.returned v) u = true ∧ limb_1_2.after args s (.returned v) u = true ∧ True) → Jvm.D.FramedW s (.returned v) u (Jvm.fieldLocs frame_1_writes args s ++ Jvm.arrayLocs frame_1_arrays args s ++ Jvm.staticLocs frame_1_statics s) 32 3264 → Post tb e args s (.returned v) u) :
    ArmFor flags0 classFile x code maxLocals ret World_1 tables_1 room_1 Calls_1 rest_1 Pre_1 Post := by
  intro l hfl _ _ p e ha hc hk s m args below hf hA hF happ hP
  obtain ⟨hcalls, hrest, hpre⟩ := hP
  obtain ⟨-, -, -, hnamed, -, -, -, hat⟩ := (Spec.applies_iff hf).mp happ
  obtain ⟨hg, hn⟩ := and_e (Cond.before_iff.mp (show (Jvm.Cond.and given_1 narrow_1).before args s = true from hpre))
  obtain ⟨hcount, g0⟩ := and_e hg
  obtain ⟨w0, w1, w2, w3, w4, rfl⟩ : ∃ w0 w1 w2 w3 w4 : Value, args = #[w0, w1, w2, w3, w4] := by
    have hs : args.size = 5 := by simpa [Cond.value, given_1] using hcount
    obtain ⟨L⟩ := args
    match L, hs with
    | [w0, w1, w2, w3, w4], _ => exact ⟨w0, w1, w2, w3, w4, rfl⟩
  have hw := fun d (hd : d ∈ tables_1) => atoms_spec (ws := Jvm.Cond.code x code maxLocals ret :: tables_1) hat d (List.mem_cons_of_mem _ hd)
  have hsets := (atoms_of jdkStatics_1 (show (jdkStatics_1.foldr Jvm.Cond.and restOwn_1).before _ s = true from by rw [← rest_1_c_eq]; exact hrest)).1
  obtain ⟨k0, g1⟩ := and_e g0
  obtain ⟨k1, g2⟩ := and_e g1
  obtain ⟨k2, g3⟩ := and_e g2
  obtain ⟨k3, g4⟩ := and_e g3
  have k4 := g4
  obtain ⟨z0, y0⟩ := is_v k0
  obtain rfl : w0 = (.int z0) := Option.some.inj y0
  obtain ⟨z1, y1⟩ := is_v k1
  obtain rfl : w1 = (.int z1) := Option.some.inj y1
  obtain ⟨z2, y2⟩ := is_v k2
  obtain rfl : w2 = (.int z2) := Option.some.inj y2
  obtain ⟨z3, y3⟩ := is_v k3
  obtain rfl : w3 = (.int z3) := Option.some.inj y3
  obtain ⟨z4, y4⟩ := is_v k4
  obtain rfl : w4 = (.int z4) := Option.some.inj y4
  have n0 := hn
  have hSF : SF s := ⟨sf_int (hsets _ (List.mem_of_getElem? (i := 9) rfl)) (hsets _ (List.mem_of_getElem? (i := 10) rfl)), sf_nz (hsets _ (List.mem_of_getElem? (i := 10) rfl)) (hsets _ (List.mem_of_getElem? (i := 11) rfl)), sf_isref (hsets _ (List.mem_of_getElem? (i := 17) rfl)), sf_ref (hsets _ (List.mem_of_getElem? (i := 16) rfl)) (hsets _ (List.mem_of_getElem? (i := 17) rfl)), sf_isref (Cond.isRef_static_of_fit (t := (.object "java/util/function/BiFunction")) hF (by decide +kernel) rfl (wq hw 122 rfl)), sf_ref2 (wq hw 121 rfl) (wq hw 122 rfl) (Cond.isRef_static_of_fit (t := (.object "java/util/function/BiFunction")) hF (by decide +kernel) rfl (wq hw 122 rfl)), t_sta (Or.inr ⟨(wq hw 21 rfl), (hsets _ (List.mem_of_getElem? (i := 2) rfl))⟩) (exa_v (Cond.before_iff.mp (hsets _ (List.mem_of_getElem? (i := 7) rfl)))), trivial⟩
  have hE : EW s _ EL.2 := (EW.cons (wq hw 64 rfl) (by decide) (EW.cons (wq hw 4 rfl) (by decide) (EW.cons (wq hw 12 rfl) (by decide) EW.nil)))
  have hCH : CHv s EL.2 s.vm s.heap := CHv.start hE (fun q hq => hcalls.1 q hq) (hsets _ (List.mem_of_getElem? (i := 11) rfl)) (wq hw 7 rfl) (wq hw 6 rfl)
  have hHp := Hp.start hCH
  obtain ⟨nn, o, q1, q2, q3, v, L, rfl, N, ⟨D', -, rfl⟩, hq, hWH⟩ := lawW (Z := s) hw hSF z0 z1 z2 z3 z4 ⟨⟨_, hE⟩, by decide⟩ l tables_1 p e ha hc hk s m _ below hf ((Spec.applies_iff_loose hf).mp happ).1 ⟨rfl, State.Warmed39.refl s, hHp⟩ trivial
  exact ⟨nn, _, q1, q2, q3, hpost _ _ _ _ _ _ ⟨Cond.after_iff.mpr rfl, Cond.after_iff.mpr (eq_i res_at (Term.int_eval (1)) rfl), trivial⟩ ⟨hq.1, hq.2.1, hq.2.2.1, (hq.2.2.2.sift fun y hy => Or.inr (N y hy)).mono (by decide) (by decide)⟩⟩
theorem main_1_1 : Claimed_1_1 := comes_1 fun _ _ _ _ _ _ h hF => ⟨h.1, hF⟩
theorem main_1_2 : Claimed_1_2 := comes_1 fun _ _ _ _ _ _ h hF => ⟨h.2.1, hF⟩
end Jvm.Pilot.@@N@@
namespace Jvm.Pilot.@@N@@
open Jvm Jvm.ClassFile Sem Op Lib Jvm.Free Jvm.Stand Jvm.Pilot.@@N@@.Jvm.D
/-! MADE BY PROGRAM (witnessworld.py) out of the Statement's table words and the real class files: 34 classes; the members and pool entries that the words name. The judged class is class 1, her method 2. -/
namespace start1
open Jvm.ClassFile
def u (s : String) : CpInfo := .utf8 (stringToUtf16 s)
/-- a pool by its gaps: so many unusable entries, then the entry; so many at the end -/
def gap : Nat → List CpInfo → List CpInfo
  | 0, r => r
  | n + 1, r => .unusable :: gap n r
def poolList (es : List (Nat × CpInfo)) (last : Nat) : List CpInfo := es.foldr (fun e r => gap e.1 (e.2 :: r)) (gap last [])
def pool (es : List (Nat × CpInfo)) (last : Nat) : Array CpInfo := ⟨poolList es last⟩
def fileOf (pool : Array CpInfo) (this : Nat) (attrs : Array Attribute := #[]) (ms : Array MethodInfo := #[]) (fl : Nat := 33) (sup : Nat := 0) (ifs : Array Nat := #[]) (fds : Array FieldInfo := #[]) : ClassFile where
  minorVersion := 0
  majorVersion := 65
  constantPool := pool
  accessFlags := fl
  thisClass := this
  superClass := sup
  interfaces := ifs
  fields := fds
  methods := ms
  attributes := attrs
def plain (name : String) (sup : Option ClassId) : Class where
  name := name
  kind := .ordinary
  loader := none
  accessFlags := 33
  super := sup
  interfaces := #[]
  cf := none
  fields := #[]
  methods := #[]
  instanceTypes := #[]
  staticTypes := #[]
  resolved := #[]
  callSites := []
  init := .initialized
  statics := none
  mirror := none

def pool0 : Array CpInfo := pool [(5, u "<init>"), (0, u "()V"), (1, .class_ 10), (1, u "java/lang/Object"), (85, u "clone"), (0, u "()Ljava/lang/Object;")] 26

def k0c0 : Code := { maxStack := 0, maxLocals := 1, code := object_method_1_code, exceptionTable := #[], attributes := #[] }
def k0m0 : Method := { name := "<init>", desc := "()V", sig := { parameters := [], returnType := none }, accessFlags := 1, code := some k0c0 }
def k0m1 : Method := { name := "clone", desc := "()Ljava/lang/Object;", sig := { parameters := [], returnType := some (.object "java/lang/Object") }, accessFlags := 260, code := none }
/-- java/lang/Object -/
def k0 : Class := { plain "java/lang/Object" none with
  accessFlags := 33
  interfaces := #[]
  cf := some (fileOf pool0 8 #[] #[{ accessFlags := 1, nameIndex := 5, descriptorIndex := 6, attributes := #[] }, { accessFlags := 260, nameIndex := 96, descriptorIndex := 97, attributes := #[] }] 33 0 #[] #[])
  fields := #[]
  methods := #[k0m0, k0m1]
  instanceTypes := #[]
  staticTypes := #[]
  resolved := Array.replicate 124 none
  statics := none }

def pool1 : Array CpInfo := pool [(2, .class_ 4), (1, u "java/lang/Object"), (0, u "<init>"), (0, u "()V"), (0, .methodref 8 9), (0, .class_ 10), (0, .nameAndType 11 12), (0, u "java/lang/String"), (0, u "charAt"), (0, u "(I)C"), (0, .class_ 14), (0, u "com/example/montaje/montaje/xml/XmlElement"), (0, .string 16), (0, u ""), (0, .string 18), (0, u "e"), (0, .methodref 13 20), (0, .nameAndType 5 21), (0, u "(Ljava/lang/String;Ljava/lang/String;Ljava/lang/String;ILjava/util/Map;Ljava/util/List;)V"), (0, .methodref 13 23), (0, .nameAndType 24 25), (0, u "text"), (0, u "()Ljava/lang/String;"), (0, .methodref 8 27), (0, .nameAndType 28 29), (0, u "isEmpty"), (0, u "()Z"), (0, .methodref 13 31), (0, .nameAndType 32 33), (0, u "appendText"), (0, u "([CII)V"), (0, .methodref 8 35), (0, .nameAndType 36 37), (0, u "length"), (0, u "()I"), (0, .methodref 39 40), (0, .class_ 41), (0, .nameAndType 42 43), (0, u "com/example/montaje/montaje/xml/XmlElementTextPinLaw"), (0, u "at"), (0, u "(Ljava/lang/String;II[CII[CI)Z"), (3, u "law"), (0, u "(IIIII)Z")] 4

def k1m0 : Method := { name := "<init>", desc := "()V", sig := { parameters := [], returnType := none }, accessFlags := 2, code := none }
def k1c1 : Code := { maxStack := 3, maxLocals := 9, code := method_2_code, exceptionTable := #[], attributes := #[] }
def k1m1 : Method := { name := "at", desc := "(Ljava/lang/String;II[CII[CI)Z", sig := { parameters := [(.object "java/lang/String"), .int, .int, (.array .char), .int, .int, (.array .char), .int], returnType := some .boolean }, accessFlags := 10, code := some k1c1 }
def k1c2 : Code := { maxStack := 8, maxLocals := 19, code := code, exceptionTable := #[], attributes := #[] }
def k1m2 : Method := { name := "law", desc := "(IIIII)Z", sig := { parameters := [.int, .int, .int, .int, .int], returnType := some .boolean }, accessFlags := 9, code := some k1c2 }
/-- com/example/montaje/montaje/xml/XmlElementTextPinLaw -/
def k1 : Class := { plain "com/example/montaje/montaje/xml/XmlElementTextPinLaw" (some 0) with
  accessFlags := 49
  interfaces := #[]
  cf := some (fileOf pool1 39 #[] #[{ accessFlags := 2, nameIndex := 5, descriptorIndex := 6, attributes := #[] }, { accessFlags := 10, nameIndex := 42, descriptorIndex := 43, attributes := #[] }, { accessFlags := 9, nameIndex := 47, descriptorIndex := 48, attributes := #[] }] 49 2 #[] #[])
  fields := #[]
  methods := #[k1m0, k1m1, k1m2]
  instanceTypes := #[]
  staticTypes := #[]
  resolved := Array.replicate 53 none
  statics := none }

def pool2 : Array CpInfo := pool [(1, .methodref 2 3), (0, .class_ 4), (0, .nameAndType 5 6), (0, u "java/lang/Object"), (0, u "<init>"), (0, u "()V"), (0, .class_ 8), (0, u "java/util/ArrayList"), (0, .methodref 7 3), (0, .fieldref 11 12), (0, .class_ 13), (0, .nameAndType 14 15), (0, u "com/example/montaje/montaje/xml/XmlElement"), (0, u "children"), (0, u "Ljava/util/List;"), (0, .fieldref 11 17), (0, .nameAndType 18 19), (0, u "namespaceUri"), (0, u "Ljava/lang/String;"), (0, .fieldref 11 21), (0, .nameAndType 22 19), (0, u "localName"), (0, .fieldref 11 24), (0, .nameAndType 25 19), (0, u "qualifiedName"), (0, .fieldref 11 27), (0, .nameAndType 28 29), (0, u "line"), (0, u "I"), (0, .fieldref 11 31), (0, .nameAndType 32 33), (0, u "attributes"), (0, u "Ljava/util/Map;"), (0, .fieldref 11 35), (0, .nameAndType 36 15), (0, u "namespacedAttributes"), (18, .fieldref 11 56), (0, .nameAndType 57 58), (0, u "text"), (0, u "Ljava/lang/StringBuilder;"), (0, .string 60), (0, u ""), (0, .methodref 62 63), (0, .class_ 64), (0, .nameAndType 65 66), (0, u "java/lang/StringBuilder"), (0, u "toString"), (0, u "()Ljava/lang/String;"), (6, .methodref 62 74), (0, .nameAndType 5 75), (0, u "(I)V"), (0, .methodref 62 77), (0, .nameAndType 78 79), (0, u "append"), (0, u "([CII)Ljava/lang/StringBuilder;"), (4, u "(Ljava/lang/String;Ljava/lang/String;Ljava/lang/String;ILjava/util/Map;Ljava/util/List;)V"), (14, u "appendText"), (0, u "([CII)V"), (3, .class_ 105), (0, u "com/example/montaje/montaje/xml/XmlElement$Attribute")] 2

def k2c0 : Code := { maxStack := 3, maxLocals := 7, code := prog_64_method_1_code, exceptionTable := #[], attributes := #[] }
def k2m0 : Method := { name := "<init>", desc := "(Ljava/lang/String;Ljava/lang/String;Ljava/lang/String;ILjava/util/Map;Ljava/util/List;)V", sig := { parameters := [(.object "java/lang/String"), (.object "java/lang/String"), (.object "java/lang/String"), .int, (.object "java/util/Map"), (.object "java/util/List")], returnType := none }, accessFlags := 0, code := some k2c0 }
def k2c1 : Code := { maxStack := 1, maxLocals := 1, code := prog_64_method_10_code, exceptionTable := #[], attributes := #[] }
def k2m1 : Method := { name := "text", desc := "()Ljava/lang/String;", sig := { parameters := [], returnType := some (.object "java/lang/String") }, accessFlags := 0, code := some k2c1 }
def k2c2 : Code := { maxStack := 4, maxLocals := 4, code := prog_64_method_12_code, exceptionTable := #[], attributes := #[] }
def k2m2 : Method := { name := "appendText", desc := "([CII)V", sig := { parameters := [(.array .char), .int, .int], returnType := none }, accessFlags := 0, code := some k2c2 }
/-- com/example/montaje/montaje/xml/XmlElement -/
def k2 : Class := { plain "com/example/montaje/montaje/xml/XmlElement" (some 0) with
  accessFlags := 32
  interfaces := #[]
  cf := some (fileOf pool2 11 #[.nestMembers #[104]] #[{ accessFlags := 0, nameIndex := 5, descriptorIndex := 84, attributes := #[] }, { accessFlags := 0, nameIndex := 57, descriptorIndex := 66, attributes := #[] }, { accessFlags := 0, nameIndex := 99, descriptorIndex := 100, attributes := #[] }] 32 2 #[] #[{ accessFlags := 18, nameIndex := 18, descriptorIndex := 19, attributes := #[] }, { accessFlags := 18, nameIndex := 22, descriptorIndex := 19, attributes := #[] }, { accessFlags := 18, nameIndex := 25, descriptorIndex := 19, attributes := #[] }, { accessFlags := 18, nameIndex := 28, descriptorIndex := 29, attributes := #[] }, { accessFlags := 18, nameIndex := 32, descriptorIndex := 33, attributes := #[] }, { accessFlags := 18, nameIndex := 36, descriptorIndex := 15, attributes := #[] }, { accessFlags := 18, nameIndex := 14, descriptorIndex := 15, attributes := #[] }, { accessFlags := 2, nameIndex := 57, descriptorIndex := 58, attributes := #[] }])
  fields := #[{ name := "namespaceUri", type := (.object "java/lang/String"), accessFlags := 18, slot := 0, constantValue := 0 }, { name := "localName", type := (.object "java/lang/String"), accessFlags := 18, slot := 1, constantValue := 0 }, { name := "qualifiedName", type := (.object "java/lang/String"), accessFlags := 18, slot := 2, constantValue := 0 }, { name := "line", type := .int, accessFlags := 18, slot := 3, constantValue := 0 }, { name := "attributes", type := (.object "java/util/Map"), accessFlags := 18, slot := 4, constantValue := 0 }, { name := "namespacedAttributes", type := (.object "java/util/List"), accessFlags := 18, slot := 5, constantValue := 0 }, { name := "children", type := (.object "java/util/List"), accessFlags := 18, slot := 6, constantValue := 0 }, { name := "text", type := (.object "java/lang/StringBuilder"), accessFlags := 2, slot := 7, constantValue := 0 }]
  methods := #[k2m0, k2m1, k2m2]
  instanceTypes := #[(.object "java/lang/String"), (.object "java/lang/String"), (.object "java/lang/String"), .int, (.object "java/util/Map"), (.object "java/util/List"), (.object "java/util/List"), (.object "java/lang/StringBuilder")]
  staticTypes := #[]
  resolved := Array.replicate 108 none
  statics := none }

def pool3 : Array CpInfo := pool [(1, .class_ 2), (0, u "java/io/Serializable"), (0, .class_ 4), (0, u "java/lang/Object")] 2

/-- java/io/Serializable -/
def k3 : Class := { plain "java/io/Serializable" (some 0) with
  accessFlags := 1537
  interfaces := #[]
  cf := some (fileOf pool3 1 #[] #[] 1537 3 #[] #[])
  fields := #[]
  methods := #[]
  instanceTypes := #[]
  staticTypes := #[]
  resolved := Array.replicate 7 none
  statics := none }

def pool4 : Array CpInfo := pool [(1, .class_ 2), (0, u "java/lang/Comparable"), (0, .class_ 4), (0, u "java/lang/Object")] 7

/-- java/lang/Comparable -/
def k4 : Class := { plain "java/lang/Comparable" (some 0) with
  accessFlags := 1537
  interfaces := #[]
  cf := some (fileOf pool4 1 #[] #[] 1537 3 #[] #[])
  fields := #[]
  methods := #[]
  instanceTypes := #[]
  staticTypes := #[]
  resolved := Array.replicate 12 none
  statics := none }

def pool5 : Array CpInfo := pool [(2, .class_ 4), (1, u "java/lang/CharSequence"), (42, .class_ 48), (0, u "java/lang/CharSequence$1CodePointIterator"), (10, .class_ 60), (0, u "java/lang/CharSequence$1CharIterator"), (5, .class_ 67), (0, u "java/lang/Object")] 63

/-- java/lang/CharSequence -/
def k5 : Class := { plain "java/lang/CharSequence" (some 0) with
  accessFlags := 1537
  interfaces := #[]
  cf := some (fileOf pool5 2 #[.nestMembers #[47, 59]] #[] 1537 66 #[] #[])
  fields := #[]
  methods := #[]
  instanceTypes := #[]
  staticTypes := #[]
  resolved := Array.replicate 131 none
  statics := none }

def pool6 : Array CpInfo := pool [(1, .class_ 2), (0, u "java/lang/constant/Constable"), (0, .class_ 4), (0, u "java/lang/Object")] 6

/-- java/lang/constant/Constable -/
def k6 : Class := { plain "java/lang/constant/Constable" (some 0) with
  accessFlags := 1537
  interfaces := #[]
  cf := some (fileOf pool6 1 #[] #[] 1537 3 #[] #[])
  fields := #[]
  methods := #[]
  instanceTypes := #[]
  staticTypes := #[]
  resolved := Array.replicate 11 none
  statics := none }

def pool7 : Array CpInfo := pool [(1, .class_ 2), (0, u "java/lang/constant/ConstantDesc"), (0, .class_ 4), (0, u "java/lang/Object")] 32

/-- java/lang/constant/ConstantDesc -/
def k7 : Class := { plain "java/lang/constant/ConstantDesc" (some 0) with
  accessFlags := 1537
  interfaces := #[]
  cf := some (fileOf pool7 1 #[] #[] 1537 3 #[] #[])
  fields := #[]
  methods := #[]
  instanceTypes := #[]
  staticTypes := #[]
  resolved := Array.replicate 37 none
  statics := none }

def pool8 : Array CpInfo := pool [(1, .methodref 2 3), (0, .class_ 4), (0, .nameAndType 5 6), (0, u "java/lang/Object"), (0, u "<init>"), (0, u "()V"), (2, .fieldref 10 11), (0, .class_ 12), (0, .nameAndType 13 14), (0, u "java/lang/String"), (0, u "value"), (0, u "[B"), (0, .fieldref 10 16), (0, .nameAndType 17 18), (0, u "coder"), (0, u "B"), (2, u "hash"), (0, u "I"), (2, u "hashIsZero"), (0, u "Z"), (11, .fieldref 10 39), (0, .nameAndType 40 26), (0, u "COMPACT_STRINGS"), (13, .methodref 55 56), (0, .class_ 57), (0, .nameAndType 58 59), (0, u "java/util/Arrays"), (0, u "copyOfRange"), (0, u "([BII)[B"), (47, .class_ 109), (1, u "java/lang/StringLatin1"), (32, u "()Z"), (191, u "()I"), (0, .methodref 10 336), (0, .nameAndType 17 337), (0, u "()B"), (2, u "()[B"), (22, u "([BI)C"), (27, u "(II)V"), (35, u "(I)C"), (61, .methodref 10 490), (0, .nameAndType 5 491), (0, u "(Ljava/lang/AbstractStringBuilder;Ljava/lang/Void;)V"), (0, .methodref 10 493), (0, .nameAndType 494 142), (0, u "isLatin1"), (0, .methodref 107 496), (0, .nameAndType 497 363), (0, u "charAt"), (3, u "checkIndex"), (4, .nameAndType 507 334), (0, u "length"), (41, .methodref 550 506), (0, .class_ 551), (0, u "java/lang/AbstractStringBuilder"), (0, .methodref 550 553), (0, .nameAndType 554 340), (0, u "getValue"), (20, .class_ 576), (0, u "java/lang/CharSequence"), (22, u "CASE_INSENSITIVE_ORDER"), (0, u "Ljava/util/Comparator;"), (91, u "isEmpty"), (354, .methodref 550 493), (5, .fieldref 1054 1055), (0, .class_ 1056), (0, .nameAndType 1057 1058), (0, u "jdk/internal/util/Preconditions"), (0, u "SIOOBE_FORMATTER"), (0, u "Ljava/util/function/BiFunction;"), (0, .methodref 1054 1060), (0, .nameAndType 501 1061), (0, u "(IILjava/util/function/BiFunction;)I"), (39, u "serialPersistentFields"), (0, u "[Ljava/io/ObjectStreamField;"), (0, .class_ 1104), (0, u "java/lang/String$CaseInsensitiveComparator"), (1, .class_ 1107), (0, u "java/io/Serializable"), (0, .class_ 1109), (0, u "java/lang/Comparable"), (0, .class_ 1111), (0, u "java/lang/constant/Constable"), (0, .class_ 1113), (0, u "java/lang/constant/ConstantDesc"), (2, u "serialVersionUID"), (0, u "J"), (3, u "REPL"), (0, u "C"), (2, u "LATIN1"), (1, u "UTF16"), (105, u "(Ljava/lang/StringBuilder;)V")] 217

def k8m0 : Method := { name := "<init>", desc := "()V", sig := { parameters := [], returnType := none }, accessFlags := 1, code := none }
def k8c1 : Code := { maxStack := 3, maxLocals := 2, code := jdk_42_method_53_code, exceptionTable := #[], attributes := #[] }
def k8m1 : Method := { name := "<init>", desc := "(Ljava/lang/StringBuilder;)V", sig := { parameters := [(.object "java/lang/StringBuilder")], returnType := none }, accessFlags := 1, code := some k8c1 }
def k8c2 : Code := { maxStack := 2, maxLocals := 1, code := jdk_42_method_54_code, exceptionTable := #[], attributes := #[] }
def k8m2 : Method := { name := "length", desc := "()I", sig := { parameters := [], returnType := some .int }, accessFlags := 1, code := some k8c2 }
def k8c3 : Code := { maxStack := 1, maxLocals := 1, code := jdk_42_method_55_code, exceptionTable := #[], attributes := #[] }
def k8m3 : Method := { name := "isEmpty", desc := "()Z", sig := { parameters := [], returnType := some .boolean }, accessFlags := 1, code := some k8c3 }
def k8c4 : Code := { maxStack := 2, maxLocals := 2, code := jdk_42_method_56_code, exceptionTable := #[], attributes := #[] }
def k8m4 : Method := { name := "charAt", desc := "(I)C", sig := { parameters := [.int], returnType := some .char }, accessFlags := 1, code := some k8c4 }
def k8c5 : Code := { maxStack := 5, maxLocals := 5, code := jdk_42_method_150_code, exceptionTable := #[], attributes := #[] }
def k8m5 : Method := { name := "<init>", desc := "(Ljava/lang/AbstractStringBuilder;Ljava/lang/Void;)V", sig := { parameters := [(.object "java/lang/AbstractStringBuilder"), (.object "java/lang/Void")], returnType := none }, accessFlags := 0, code := some k8c5 }
def k8c6 : Code := { maxStack := 1, maxLocals := 1, code := jdk_42_method_152_code, exceptionTable := #[], attributes := #[] }
def k8m6 : Method := { name := "coder", desc := "()B", sig := { parameters := [], returnType := some .byte }, accessFlags := 0, code := some k8c6 }
def k8c7 : Code := { maxStack := 1, maxLocals := 1, code := jdk_42_method_154_code, exceptionTable := #[], attributes := #[] }
def k8m7 : Method := { name := "isLatin1", desc := "()Z", sig := { parameters := [], returnType := some .boolean }, accessFlags := 0, code := some k8c7 }
def k8c8 : Code := { maxStack := 3, maxLocals := 2, code := jdk_42_method_155_code, exceptionTable := #[], attributes := #[] }
def k8m8 : Method := { name := "checkIndex", desc := "(II)V", sig := { parameters := [.int, .int], returnType := none }, accessFlags := 8, code := some k8c8 }
/-- java/lang/String -/
def k8 : Class := { plain "java/lang/String" (some 0) with
  accessFlags := 49
  interfaces := #[3, 4, 5, 6, 7]
  cf := some (fileOf pool8 10 #[.nestMembers #[1103]] #[{ accessFlags := 1, nameIndex := 5, descriptorIndex := 6, attributes := #[] }, { accessFlags := 1, nameIndex := 5, descriptorIndex := 1233, attributes := #[] }, { accessFlags := 1, nameIndex := 507, descriptorIndex := 334, attributes := #[] }, { accessFlags := 1, nameIndex := 692, descriptorIndex := 142, attributes := #[] }, { accessFlags := 1, nameIndex := 497, descriptorIndex := 427, attributes := #[] }, { accessFlags := 0, nameIndex := 5, descriptorIndex := 491, attributes := #[] }, { accessFlags := 0, nameIndex := 17, descriptorIndex := 337, attributes := #[] }, { accessFlags := 0, nameIndex := 494, descriptorIndex := 142, attributes := #[] }, { accessFlags := 8, nameIndex := 501, descriptorIndex := 391, attributes := #[] }] 49 2 #[1106, 1108, 575, 1110, 1112] #[{ accessFlags := 18, nameIndex := 13, descriptorIndex := 14, attributes := #[] }, { accessFlags := 18, nameIndex := 17, descriptorIndex := 18, attributes := #[] }, { accessFlags := 2, nameIndex := 21, descriptorIndex := 22, attributes := #[] }, { accessFlags := 2, nameIndex := 25, descriptorIndex := 26, attributes := #[] }, { accessFlags := 26, nameIndex := 1116, descriptorIndex := 1117, attributes := #[] }, { accessFlags := 24, nameIndex := 40, descriptorIndex := 26, attributes := #[] }, { accessFlags := 26, nameIndex := 1101, descriptorIndex := 1102, attributes := #[] }, { accessFlags := 26, nameIndex := 1121, descriptorIndex := 1122, attributes := #[] }, { accessFlags := 25, nameIndex := 599, descriptorIndex := 600, attributes := #[] }, { accessFlags := 24, nameIndex := 1125, descriptorIndex := 18, attributes := #[] }, { accessFlags := 24, nameIndex := 1127, descriptorIndex := 18, attributes := #[] }])
  fields := #[{ name := "value", type := (.array .byte), accessFlags := 18, slot := 0, constantValue := 0 }, { name := "coder", type := .byte, accessFlags := 18, slot := 1, constantValue := 0 }, { name := "hash", type := .int, accessFlags := 2, slot := 2, constantValue := 0 }, { name := "hashIsZero", type := .boolean, accessFlags := 2, slot := 3, constantValue := 0 }, { name := "serialVersionUID", type := .long, accessFlags := 26, slot := 0, constantValue := 0 }, { name := "COMPACT_STRINGS", type := .boolean, accessFlags := 24, slot := 1, constantValue := 0 }, { name := "serialPersistentFields", type := (.array (.object "java/io/ObjectStreamField")), accessFlags := 26, slot := 2, constantValue := 0 }, { name := "REPL", type := .char, accessFlags := 26, slot := 3, constantValue := 0 }, { name := "CASE_INSENSITIVE_ORDER", type := (.object "java/util/Comparator"), accessFlags := 25, slot := 4, constantValue := 0 }, { name := "LATIN1", type := .byte, accessFlags := 24, slot := 5, constantValue := 0 }, { name := "UTF16", type := .byte, accessFlags := 24, slot := 6, constantValue := 0 }]
  methods := #[k8m0, k8m1, k8m2, k8m3, k8m4, k8m5, k8m6, k8m7, k8m8]
  instanceTypes := #[(.array .byte), .byte, .int, .boolean]
  staticTypes := #[.long, .boolean, (.array (.object "java/io/ObjectStreamField")), .char, (.object "java/util/Comparator"), .byte, .byte]
  resolved := Array.replicate 1451 none
  statics := some 0 }

def pool9 : Array CpInfo := pool [(8, .class_ 10), (1, u "java/lang/Iterable"), (24, .class_ 36), (0, u "java/lang/Object")] 25

/-- java/lang/Iterable -/
def k9 : Class := { plain "java/lang/Iterable" (some 0) with
  accessFlags := 1537
  interfaces := #[]
  cf := some (fileOf pool9 8 #[] #[] 1537 35 #[] #[])
  fields := #[]
  methods := #[]
  instanceTypes := #[]
  staticTypes := #[]
  resolved := Array.replicate 62 none
  statics := none }

def pool10 : Array CpInfo := pool [(10, .class_ 12), (1, u "java/util/Collection"), (47, .class_ 61), (0, u "java/lang/Object"), (0, .class_ 63), (0, u "java/lang/Iterable")] 51

/-- java/util/Collection -/
def k10 : Class := { plain "java/util/Collection" (some 0) with
  accessFlags := 1537
  interfaces := #[9]
  cf := some (fileOf pool10 10 #[] #[] 1537 60 #[62] #[])
  fields := #[]
  methods := #[]
  instanceTypes := #[]
  staticTypes := #[]
  resolved := Array.replicate 115 none
  statics := none }

def pool11 : Array CpInfo := pool [(1, .methodref 2 3), (0, .class_ 4), (0, .nameAndType 5 6), (0, u "java/lang/Object"), (0, u "<init>"), (0, u "()V"), (1, .class_ 10), (1, u "java/util/AbstractCollection"), (66, .class_ 78), (0, u "java/util/Collection")] 81

def k11c0 : Code := { maxStack := 1, maxLocals := 1, code := jdk_22_method_1_code, exceptionTable := #[], attributes := #[] }
def k11m0 : Method := { name := "<init>", desc := "()V", sig := { parameters := [], returnType := none }, accessFlags := 4, code := some k11c0 }
/-- java/util/AbstractCollection -/
def k11 : Class := { plain "java/util/AbstractCollection" (some 0) with
  accessFlags := 1057
  interfaces := #[10]
  cf := some (fileOf pool11 8 #[] #[{ accessFlags := 4, nameIndex := 5, descriptorIndex := 6, attributes := #[] }] 1057 2 #[77] #[])
  fields := #[]
  methods := #[k11m0]
  instanceTypes := #[]
  staticTypes := #[]
  resolved := Array.replicate 160 none
  statics := none }

def pool12 : Array CpInfo := pool [(8, .class_ 10), (1, u "java/util/SequencedCollection"), (15, .class_ 27), (0, u "java/lang/Object"), (0, .class_ 29), (0, u "java/util/Collection")] 27

/-- java/util/SequencedCollection -/
def k12 : Class := { plain "java/util/SequencedCollection" (some 0) with
  accessFlags := 1537
  interfaces := #[10]
  cf := some (fileOf pool12 8 #[] #[] 1537 26 #[28] #[])
  fields := #[]
  methods := #[]
  instanceTypes := #[]
  staticTypes := #[]
  resolved := Array.replicate 57 none
  statics := none }

def pool13 : Array CpInfo := pool [(8, .class_ 10), (1, u "java/util/List"), (92, .class_ 104), (0, u "java/lang/Object"), (15, .class_ 121), (0, u "java/util/SequencedCollection")] 129

/-- java/util/List -/
def k13 : Class := { plain "java/util/List" (some 0) with
  accessFlags := 1537
  interfaces := #[12]
  cf := some (fileOf pool13 8 #[] #[] 1537 103 #[120] #[])
  fields := #[]
  methods := #[]
  instanceTypes := #[]
  staticTypes := #[]
  resolved := Array.replicate 251 none
  statics := none }

def pool14 : Array CpInfo := pool [(1, .methodref 2 3), (0, .class_ 4), (0, .nameAndType 5 6), (0, u "java/util/AbstractCollection"), (0, u "<init>"), (0, u "()V"), (0, .fieldref 8 9), (0, .class_ 10), (0, .nameAndType 11 12), (0, u "java/util/AbstractList"), (0, u "modCount"), (0, u "I"), (64, .class_ 78), (0, u "java/util/AbstractList$Itr"), (3, .class_ 83), (0, u "java/util/AbstractList$ListItr"), (9, .class_ 94), (0, u "java/util/AbstractList$RandomAccessSubList"), (3, .class_ 99), (0, u "java/util/AbstractList$SubList"), (33, .class_ 134), (0, u "java/util/List"), (73, .class_ 209), (0, u "java/util/AbstractList$SubList$1"), (0, .class_ 211), (0, u "java/util/AbstractList$RandomAccessSpliterator")] 6

def k14c0 : Code := { maxStack := 2, maxLocals := 1, code := jdk_39_method_1_code, exceptionTable := #[], attributes := #[] }
def k14m0 : Method := { name := "<init>", desc := "()V", sig := { parameters := [], returnType := none }, accessFlags := 4, code := some k14c0 }
/-- java/util/AbstractList -/
def k14 : Class := { plain "java/util/AbstractList" (some 11) with
  accessFlags := 1057
  interfaces := #[13]
  cf := some (fileOf pool14 8 #[.nestMembers #[93, 98, 208, 210, 82, 77]] #[{ accessFlags := 4, nameIndex := 5, descriptorIndex := 6, attributes := #[] }] 1057 2 #[133] #[{ accessFlags := 132, nameIndex := 11, descriptorIndex := 12, attributes := #[] }])
  fields := #[{ name := "modCount", type := .int, accessFlags := 132, slot := 0, constantValue := 0 }]
  methods := #[k14m0]
  instanceTypes := #[.int]
  staticTypes := #[]
  resolved := Array.replicate 218 none
  statics := none }

def pool15 : Array CpInfo := pool [(1, .class_ 2), (0, u "java/util/RandomAccess"), (0, .class_ 4), (0, u "java/lang/Object")] 2

/-- java/util/RandomAccess -/
def k15 : Class := { plain "java/util/RandomAccess" (some 0) with
  accessFlags := 1537
  interfaces := #[]
  cf := some (fileOf pool15 1 #[] #[] 1537 3 #[] #[])
  fields := #[]
  methods := #[]
  instanceTypes := #[]
  staticTypes := #[]
  resolved := Array.replicate 7 none
  statics := none }

def pool16 : Array CpInfo := pool [(1, .class_ 2), (0, u "java/lang/Cloneable"), (0, .class_ 4), (0, u "java/lang/Object")] 2

/-- java/lang/Cloneable -/
def k16 : Class := { plain "java/lang/Cloneable" (some 0) with
  accessFlags := 1537
  interfaces := #[]
  cf := some (fileOf pool16 1 #[] #[] 1537 3 #[] #[])
  fields := #[]
  methods := #[]
  instanceTypes := #[]
  staticTypes := #[]
  resolved := Array.replicate 7 none
  statics := none }

def pool17 : Array CpInfo := pool [(1, .methodref 2 3), (0, .class_ 4), (0, .nameAndType 5 6), (0, u "java/util/AbstractList"), (0, u "<init>"), (0, u "()V"), (2, .fieldref 10 11), (0, .class_ 12), (0, .nameAndType 13 14), (0, u "java/util/ArrayList"), (0, u "elementData"), (0, u "[Ljava/lang/Object;"), (2, u "EMPTY_ELEMENTDATA"), (21, .fieldref 10 40), (0, .nameAndType 41 14), (0, u "DEFAULTCAPACITY_EMPTY_ELEMENTDATA"), (8, u "size"), (0, u "I"), (96, .class_ 149), (0, u "java/util/List"), (112, .class_ 263), (0, u "java/util/ArrayList$ListItr"), (3, .class_ 268), (0, u "java/util/ArrayList$Itr"), (7, .class_ 277), (0, u "java/util/ArrayList$SubList"), (12, .class_ 291), (0, u "java/util/ArrayList$ArrayListSpliterator"), (37, .class_ 330), (0, u "java/util/RandomAccess"), (0, .class_ 332), (0, u "java/lang/Cloneable"), (0, .class_ 334), (0, u "java/io/Serializable"), (0, u "serialVersionUID"), (0, u "J"), (3, u "DEFAULT_CAPACITY"), (159, .class_ 501), (0, u "java/util/ArrayList$SubList$2"), (0, .class_ 503), (0, u "java/util/ArrayList$SubList$1")] 5

def k17c0 : Code := { maxStack := 2, maxLocals := 1, code := jdk_38_method_2_code, exceptionTable := #[], attributes := #[] }
def k17m0 : Method := { name := "<init>", desc := "()V", sig := { parameters := [], returnType := none }, accessFlags := 1, code := some k17c0 }
/-- java/util/ArrayList -/
def k17 : Class := { plain "java/util/ArrayList" (some 14) with
  accessFlags := 33
  interfaces := #[13, 15, 16, 3]
  cf := some (fileOf pool17 10 #[.nestMembers #[290, 276, 500, 502, 262, 267]] #[{ accessFlags := 1, nameIndex := 5, descriptorIndex := 6, attributes := #[] }] 33 2 #[148, 329, 331, 333] #[{ accessFlags := 26, nameIndex := 335, descriptorIndex := 336, attributes := #[] }, { accessFlags := 26, nameIndex := 340, descriptorIndex := 51, attributes := #[] }, { accessFlags := 26, nameIndex := 17, descriptorIndex := 14, attributes := #[] }, { accessFlags := 26, nameIndex := 41, descriptorIndex := 14, attributes := #[] }, { accessFlags := 128, nameIndex := 13, descriptorIndex := 14, attributes := #[] }, { accessFlags := 2, nameIndex := 50, descriptorIndex := 51, attributes := #[] }])
  fields := #[{ name := "serialVersionUID", type := .long, accessFlags := 26, slot := 0, constantValue := 0 }, { name := "DEFAULT_CAPACITY", type := .int, accessFlags := 26, slot := 1, constantValue := 0 }, { name := "EMPTY_ELEMENTDATA", type := (.array (.object "java/lang/Object")), accessFlags := 26, slot := 2, constantValue := 0 }, { name := "DEFAULTCAPACITY_EMPTY_ELEMENTDATA", type := (.array (.object "java/lang/Object")), accessFlags := 26, slot := 3, constantValue := 0 }, { name := "elementData", type := (.array (.object "java/lang/Object")), accessFlags := 128, slot := 1, constantValue := 0 }, { name := "size", type := .int, accessFlags := 2, slot := 2, constantValue := 0 }]
  methods := #[k17m0]
  instanceTypes := #[.int, (.array (.object "java/lang/Object")), .int]
  staticTypes := #[.long, .int, (.array (.object "java/lang/Object")), (.array (.object "java/lang/Object"))]
  resolved := Array.replicate 509 none
  statics := some 1 }

def pool18 : Array CpInfo := pool [(1, .class_ 2), (0, u "java/lang/Appendable"), (0, .class_ 4), (0, u "java/lang/Object")] 9

/-- java/lang/Appendable -/
def k18 : Class := { plain "java/lang/Appendable" (some 0) with
  accessFlags := 1537
  interfaces := #[]
  cf := some (fileOf pool18 1 #[] #[] 1537 3 #[] #[])
  fields := #[]
  methods := #[]
  instanceTypes := #[]
  staticTypes := #[]
  resolved := Array.replicate 14 none
  statics := none }

def pool19 : Array CpInfo := pool [(1, .class_ 2), (0, u "java/lang/String"), (0, .methodref 4 5), (0, .class_ 6), (0, .nameAndType 7 8), (0, u "java/lang/Object"), (0, u "<init>"), (0, u "()V"), (1, .class_ 12), (1, u "java/lang/AbstractStringBuilder"), (0, u "EMPTYVALUE"), (0, u "[B"), (0, .fieldref 10 16), (0, .nameAndType 17 14), (0, u "value"), (0, .fieldref 1 19), (0, .nameAndType 20 21), (0, u "COMPACT_STRINGS"), (0, u "Z"), (0, .fieldref 10 23), (0, .nameAndType 24 25), (0, u "coder"), (0, u "B"), (8, u "length"), (0, u "()I"), (3, .integer 2147483647), (5, u "append"), (2, .class_ 49), (0, u "java/lang/CharSequence"), (25, u "maybeLatin1"), (3, .fieldref 10 80), (0, .nameAndType 81 82), (0, u "count"), (0, u "I"), (0, .methodref 10 84), (0, .nameAndType 85 86), (0, u "isLatin1"), (0, u "()Z"), (1, .class_ 90), (1, u "java/lang/StringLatin1"), (9, .methodref 10 101), (0, .nameAndType 102 103), (0, u "ensureCapacityInternal"), (0, u "(I)V"), (0, .methodref 10 105), (0, .nameAndType 106 107), (0, u "newCapacity"), (0, u "(I)I"), (0, .methodref 109 110), (0, .class_ 111), (0, .nameAndType 112 113), (0, u "java/util/Arrays"), (0, u "copyOf"), (0, u "([BI)[B"), (0, .methodref 115 116), (0, .class_ 117), (0, .nameAndType 118 119), (0, u "jdk/internal/util/ArraysSupport"), (0, u "newLength"), (0, u "(III)I"), (41, .methodref 162 163), (0, .class_ 164), (0, .nameAndType 165 166), (0, u "jdk/internal/util/Preconditions"), (0, u "checkFromToIndex"), (0, u "(IIILjava/util/function/BiFunction;)I"), (15, u "Ljava/util/function/BiFunction;"), (0, .fieldref 162 184), (0, .nameAndType 185 182), (0, u "IOOBE_FORMATTER"), (5, .methodref 88 192), (0, .nameAndType 193 194), (0, u "canEncode"), (0, u "(C)Z"), (39, u "appendChars"), (4, .methodref 10 240), (0, .nameAndType 234 241), (0, u "([CII)V"), (161, u "()[B"), (40, .class_ 445), (0, u "java/lang/Appendable"), (60, u "([CII)Ljava/lang/AbstractStringBuilder;"), (45, u "getValue")] 56

def k19m0 : Method := { name := "<init>", desc := "()V", sig := { parameters := [], returnType := none }, accessFlags := 0, code := none }
def k19c1 : Code := { maxStack := 2, maxLocals := 2, code := jdk_68_method_2_code, exceptionTable := #[], attributes := #[] }
def k19m1 : Method := { name := "<init>", desc := "(I)V", sig := { parameters := [.int], returnType := none }, accessFlags := 0, code := some k19c1 }
def k19c2 : Code := { maxStack := 1, maxLocals := 1, code := jdk_68_method_6_code, exceptionTable := #[], attributes := #[] }
def k19m2 : Method := { name := "length", desc := "()I", sig := { parameters := [], returnType := some .int }, accessFlags := 1, code := some k19c2 }
def k19c3 : Code := { maxStack := 4, maxLocals := 3, code := jdk_68_method_9_code, exceptionTable := #[], attributes := #[] }
def k19m3 : Method := { name := "ensureCapacityInternal", desc := "(I)V", sig := { parameters := [.int], returnType := none }, accessFlags := 2, code := some k19c3 }
def k19c4 : Code := { maxStack := 5, maxLocals := 6, code := jdk_68_method_10_code, exceptionTable := #[], attributes := #[] }
def k19m4 : Method := { name := "newCapacity", desc := "(I)I", sig := { parameters := [.int], returnType := some .int }, accessFlags := 2, code := some k19c4 }
def k19c5 : Code := { maxStack := 4, maxLocals := 5, code := jdk_68_method_29_code, exceptionTable := #[], attributes := #[] }
def k19m5 : Method := { name := "append", desc := "([CII)Ljava/lang/AbstractStringBuilder;", sig := { parameters := [(.array .char), .int, .int], returnType := some (.object "java/lang/AbstractStringBuilder") }, accessFlags := 1, code := some k19c5 }
def k19c6 : Code := { maxStack := 1, maxLocals := 1, code := jdk_68_method_64_code, exceptionTable := #[], attributes := #[] }
def k19m6 : Method := { name := "getValue", desc := "()[B", sig := { parameters := [], returnType := some (.array .byte) }, accessFlags := 16, code := some k19c6 }
def k19c7 : Code := { maxStack := 1, maxLocals := 1, code := jdk_68_method_68_code, exceptionTable := #[], attributes := #[] }
def k19m7 : Method := { name := "isLatin1", desc := "()Z", sig := { parameters := [], returnType := some .boolean }, accessFlags := 16, code := some k19c7 }
def k19c8 : Code := { maxStack := 5, maxLocals := 9, code := jdk_68_method_74_code, exceptionTable := #[], attributes := #[] }
def k19m8 : Method := { name := "appendChars", desc := "([CII)V", sig := { parameters := [(.array .char), .int, .int], returnType := none }, accessFlags := 18, code := some k19c8 }
/-- java/lang/AbstractStringBuilder -/
def k19 : Class := { plain "java/lang/AbstractStringBuilder" (some 0) with
  accessFlags := 1056
  interfaces := #[18, 5]
  cf := some (fileOf pool19 10 #[] #[{ accessFlags := 0, nameIndex := 7, descriptorIndex := 8, attributes := #[] }, { accessFlags := 0, nameIndex := 7, descriptorIndex := 103, attributes := #[] }, { accessFlags := 1, nameIndex := 34, descriptorIndex := 35, attributes := #[] }, { accessFlags := 2, nameIndex := 102, descriptorIndex := 103, attributes := #[] }, { accessFlags := 2, nameIndex := 106, descriptorIndex := 107, attributes := #[] }, { accessFlags := 1, nameIndex := 45, descriptorIndex := 506, attributes := #[] }, { accessFlags := 16, nameIndex := 552, descriptorIndex := 403, attributes := #[] }, { accessFlags := 16, nameIndex := 85, descriptorIndex := 86, attributes := #[] }, { accessFlags := 18, nameIndex := 234, descriptorIndex := 241, attributes := #[] }] 1056 4 #[444, 48] #[{ accessFlags := 0, nameIndex := 17, descriptorIndex := 14, attributes := #[] }, { accessFlags := 0, nameIndex := 24, descriptorIndex := 25, attributes := #[] }, { accessFlags := 0, nameIndex := 75, descriptorIndex := 21, attributes := #[] }, { accessFlags := 0, nameIndex := 81, descriptorIndex := 82, attributes := #[] }, { accessFlags := 26, nameIndex := 13, descriptorIndex := 14, attributes := #[] }])
  fields := #[{ name := "value", type := (.array .byte), accessFlags := 0, slot := 0, constantValue := 0 }, { name := "coder", type := .byte, accessFlags := 0, slot := 1, constantValue := 0 }, { name := "maybeLatin1", type := .boolean, accessFlags := 0, slot := 2, constantValue := 0 }, { name := "count", type := .int, accessFlags := 0, slot := 3, constantValue := 0 }, { name := "EMPTYVALUE", type := (.array .byte), accessFlags := 26, slot := 0, constantValue := 0 }]
  methods := #[k19m0, k19m1, k19m2, k19m3, k19m4, k19m5, k19m6, k19m7, k19m8]
  instanceTypes := #[(.array .byte), .byte, .boolean, .int]
  staticTypes := #[(.array .byte)]
  resolved := Array.replicate 609 none
  statics := none }

def pool20 : Array CpInfo := pool [(1, .methodref 2 3), (0, .class_ 4), (0, .nameAndType 5 6), (0, u "java/lang/AbstractStringBuilder"), (0, u "<init>"), (0, u "(I)V"), (11, .class_ 20), (1, u "java/lang/String"), (3, .class_ 26), (1, u "java/lang/StringBuilder"), (0, u "append"), (16, .methodref 2 45), (0, .nameAndType 27 46), (0, u "([CII)Ljava/lang/AbstractStringBuilder;"), (90, .methodref 18 138), (0, .nameAndType 5 139), (0, u "(Ljava/lang/StringBuilder;)V"), (5, u "()V"), (10, u "()I"), (135, u "([CII)Ljava/lang/StringBuilder;"), (50, .methodref 2 344), (0, .nameAndType 345 156), (0, u "length"), (3, .class_ 350), (0, u "java/lang/Appendable"), (0, .class_ 352), (0, u "java/io/Serializable"), (0, .class_ 354), (0, u "java/lang/Comparable"), (0, .class_ 356), (0, u "java/lang/CharSequence"), (0, u "serialVersionUID"), (0, u "J"), (40, u "toString"), (0, u "()Ljava/lang/String;")] 21

def k20m0 : Method := { name := "<init>", desc := "()V", sig := { parameters := [], returnType := none }, accessFlags := 1, code := none }
def k20c1 : Code := { maxStack := 2, maxLocals := 2, code := jdk_67_method_2_code, exceptionTable := #[], attributes := #[] }
def k20m1 : Method := { name := "<init>", desc := "(I)V", sig := { parameters := [.int], returnType := none }, accessFlags := 1, code := some k20c1 }
def k20c2 : Code := { maxStack := 4, maxLocals := 4, code := jdk_67_method_12_code, exceptionTable := #[], attributes := #[] }
def k20m2 : Method := { name := "append", desc := "([CII)Ljava/lang/StringBuilder;", sig := { parameters := [(.array .char), .int, .int], returnType := some (.object "java/lang/StringBuilder") }, accessFlags := 1, code := some k20c2 }
def k20c3 : Code := { maxStack := 3, maxLocals := 1, code := jdk_67_method_42_code, exceptionTable := #[], attributes := #[] }
def k20m3 : Method := { name := "toString", desc := "()Ljava/lang/String;", sig := { parameters := [], returnType := some (.object "java/lang/String") }, accessFlags := 1, code := some k20c3 }
def k20c4 : Code := { maxStack := 1, maxLocals := 1, code := jdk_67_method_93_code, exceptionTable := #[], attributes := #[] }
def k20m4 : Method := { name := "length", desc := "()I", sig := { parameters := [], returnType := some .int }, accessFlags := 4161, code := some k20c4 }
/-- java/lang/StringBuilder -/
def k20 : Class := { plain "java/lang/StringBuilder" (some 19) with
  accessFlags := 49
  interfaces := #[18, 3, 4, 5]
  cf := some (fileOf pool20 24 #[] #[{ accessFlags := 1, nameIndex := 5, descriptorIndex := 145, attributes := #[] }, { accessFlags := 1, nameIndex := 5, descriptorIndex := 6, attributes := #[] }, { accessFlags := 1, nameIndex := 27, descriptorIndex := 292, attributes := #[] }, { accessFlags := 1, nameIndex := 399, descriptorIndex := 400, attributes := #[] }, { accessFlags := 4161, nameIndex := 345, descriptorIndex := 156, attributes := #[] }] 49 2 #[349, 351, 353, 355] #[{ accessFlags := 24, nameIndex := 357, descriptorIndex := 358, attributes := #[] }])
  fields := #[{ name := "serialVersionUID", type := .long, accessFlags := 24, slot := 0, constantValue := 0 }]
  methods := #[k20m0, k20m1, k20m2, k20m3, k20m4]
  instanceTypes := #[(.array .byte), .byte, .boolean, .int]
  staticTypes := #[.long]
  resolved := Array.replicate 422 none
  statics := none }

def pool21 : Array CpInfo := pool [(2, .class_ 4), (1, u "java/lang/Object"), (0, u "<init>"), (0, u "()V"), (17, .class_ 26), (1, u "jdk/internal/util/Preconditions"), (6, u "checkIndex"), (13, u "checkFromToIndex"), (7, .class_ 56), (0, u "jdk/internal/util/Preconditions$4"), (57, .class_ 115), (0, u "jdk/internal/util/Preconditions$1"), (7, u "SIOOBE_FORMATTER"), (0, u "Ljava/util/function/BiFunction;"), (0, .class_ 126), (0, u "jdk/internal/util/Preconditions$2"), (3, u "AIOOBE_FORMATTER"), (0, .class_ 132), (0, u "jdk/internal/util/Preconditions$3"), (3, u "IOOBE_FORMATTER"), (41, u "(IILjava/util/function/BiFunction;)I"), (4, u "(IIILjava/util/function/BiFunction;)I")] 10

def k21m0 : Method := { name := "<init>", desc := "()V", sig := { parameters := [], returnType := none }, accessFlags := 1, code := none }
def k21c1 : Code := { maxStack := 3, maxLocals := 3, code := jdk_41_method_11_code, exceptionTable := #[], attributes := #[] }
def k21m1 : Method := { name := "checkIndex", desc := "(IILjava/util/function/BiFunction;)I", sig := { parameters := [.int, .int, (.object "java/util/function/BiFunction")], returnType := some .int }, accessFlags := 9, code := some k21c1 }
def k21c2 : Code := { maxStack := 4, maxLocals := 4, code := jdk_41_method_12_code, exceptionTable := #[], attributes := #[] }
def k21m2 : Method := { name := "checkFromToIndex", desc := "(IIILjava/util/function/BiFunction;)I", sig := { parameters := [.int, .int, .int, (.object "java/util/function/BiFunction")], returnType := some .int }, accessFlags := 9, code := some k21c2 }
/-- jdk/internal/util/Preconditions -/
def k21 : Class := { plain "jdk/internal/util/Preconditions" (some 0) with
  accessFlags := 33
  interfaces := #[]
  cf := some (fileOf pool21 24 #[.nestMembers #[55, 131, 125, 114]] #[{ accessFlags := 1, nameIndex := 5, descriptorIndex := 6, attributes := #[] }, { accessFlags := 9, nameIndex := 33, descriptorIndex := 178, attributes := #[] }, { accessFlags := 9, nameIndex := 47, descriptorIndex := 183, attributes := #[] }] 33 2 #[] #[{ accessFlags := 25, nameIndex := 123, descriptorIndex := 124, attributes := #[] }, { accessFlags := 25, nameIndex := 130, descriptorIndex := 124, attributes := #[] }, { accessFlags := 25, nameIndex := 136, descriptorIndex := 124, attributes := #[] }])
  fields := #[{ name := "SIOOBE_FORMATTER", type := (.object "java/util/function/BiFunction"), accessFlags := 25, slot := 0, constantValue := 0 }, { name := "AIOOBE_FORMATTER", type := (.object "java/util/function/BiFunction"), accessFlags := 25, slot := 1, constantValue := 0 }, { name := "IOOBE_FORMATTER", type := (.object "java/util/function/BiFunction"), accessFlags := 25, slot := 2, constantValue := 0 }]
  methods := #[k21m0, k21m1, k21m2]
  instanceTypes := #[]
  staticTypes := #[(.object "java/util/function/BiFunction"), (.object "java/util/function/BiFunction"), (.object "java/util/function/BiFunction")]
  resolved := Array.replicate 194 none
  statics := some 2 }

def pool22 : Array CpInfo := pool [(1, .class_ 2), (0, u "java/lang/String"), (1, .class_ 6), (1, u "java/lang/Object"), (0, u "<init>"), (0, u "()V"), (0, .methodref 1 10), (0, .nameAndType 11 12), (0, u "checkIndex"), (0, u "(II)V"), (1, .class_ 16), (1, u "java/lang/StringLatin1"), (36, u "([BI)C"), (36, u "canEncode"), (14, u "(C)Z"), (15, u "$assertionsDisabled"), (0, u "Z"), (98, .class_ 223), (1, u "java/lang/StringLatin1$LinesSpliterator"), (28, u "charAt"), (137, .class_ 391), (0, u "java/lang/StringLatin1$CharsSpliterator")] 3

def k22m0 : Method := { name := "<init>", desc := "()V", sig := { parameters := [], returnType := none }, accessFlags := 0, code := none }
def k22c1 : Code := { maxStack := 2, maxLocals := 2, code := jdk_43_method_2_code, exceptionTable := #[], attributes := #[] }
def k22m1 : Method := { name := "charAt", desc := "([BI)C", sig := { parameters := [(.array .byte), .int], returnType := some .char }, accessFlags := 9, code := some k22c1 }
def k22c2 : Code := { maxStack := 2, maxLocals := 1, code := jdk_43_method_3_code, exceptionTable := #[], attributes := #[] }
def k22m2 : Method := { name := "canEncode", desc := "(C)Z", sig := { parameters := [.char], returnType := some .boolean }, accessFlags := 9, code := some k22c2 }
/-- java/lang/StringLatin1 -/
def k22 : Class := { plain "java/lang/StringLatin1" (some 0) with
  accessFlags := 48
  interfaces := #[]
  cf := some (fileOf pool22 14 #[.nestMembers #[390, 221]] #[{ accessFlags := 0, nameIndex := 7, descriptorIndex := 8, attributes := #[] }, { accessFlags := 9, nameIndex := 252, descriptorIndex := 53, attributes := #[] }, { accessFlags := 9, nameIndex := 90, descriptorIndex := 105, attributes := #[] }] 48 4 #[] #[{ accessFlags := 4120, nameIndex := 121, descriptorIndex := 122, attributes := #[] }])
  fields := #[{ name := "$assertionsDisabled", type := .boolean, accessFlags := 4120, slot := 0, constantValue := 0 }]
  methods := #[k22m0, k22m1, k22m2]
  instanceTypes := #[]
  staticTypes := #[.boolean]
  resolved := Array.replicate 395 none
  statics := none }

def pool23 : Array CpInfo := pool [(9, u "<init>"), (6, .class_ 18), (1, u "java/lang/Object"), (0, u "()V"), (1, .class_ 23), (1, u "jdk/internal/util/ArraysSupport"), (0, u "LOG2_ARRAY_LONG_INDEX_SCALE"), (0, u "I"), (2, u "U"), (0, u "Ljdk/internal/misc/Unsafe;"), (8, u "BIG_ENDIAN"), (0, u "Z"), (8, u "LOG2_BYTE_BIT_SIZE"), (4, u "LOG2_ARRAY_INT_INDEX_SCALE"), (54, u "JLA"), (0, u "Ljdk/internal/access/JavaLangAccess;"), (11, u "LOG2_ARRAY_BOOLEAN_INDEX_SCALE"), (9, u "LOG2_ARRAY_BYTE_INDEX_SCALE"), (5, u "LOG2_ARRAY_CHAR_INDEX_SCALE"), (5, u "LOG2_ARRAY_SHORT_INDEX_SCALE"), (18, u "LOG2_ARRAY_FLOAT_INDEX_SCALE"), (24, u "LOG2_ARRAY_DOUBLE_INDEX_SCALE"), (6, .methodref 195 196), (0, .class_ 197), (0, .nameAndType 198 199), (0, u "java/lang/Math"), (0, u "max"), (0, u "(II)I"), (0, .integer 2147483639), (76, u "T_BOOLEAN"), (2, u "T_CHAR"), (1, u "T_FLOAT"), (1, u "T_DOUBLE"), (1, u "T_BYTE"), (1, u "T_SHORT"), (1, u "T_INT"), (1, u "T_LONG"), (1, u "SOFT_MAX_ARRAY_LENGTH"), (56, u "newLength"), (0, u "(III)I")] 25

def k23m0 : Method := { name := "<init>", desc := "()V", sig := { parameters := [], returnType := none }, accessFlags := 2, code := none }
def k23c1 : Code := { maxStack := 3, maxLocals := 4, code := jdk_48_method_27_code, exceptionTable := #[], attributes := #[] }
def k23m1 : Method := { name := "newLength", desc := "(III)I", sig := { parameters := [.int, .int, .int], returnType := some .int }, accessFlags := 9, code := some k23c1 }
/-- jdk/internal/util/ArraysSupport -/
def k23 : Class := { plain "jdk/internal/util/ArraysSupport" (some 0) with
  accessFlags := 33
  interfaces := #[]
  cf := some (fileOf pool23 21 #[] #[{ accessFlags := 2, nameIndex := 9, descriptorIndex := 19, attributes := #[] }, { accessFlags := 9, nameIndex := 351, descriptorIndex := 352, attributes := #[] }] 33 16 #[] #[{ accessFlags := 24, nameIndex := 28, descriptorIndex := 29, attributes := #[] }, { accessFlags := 26, nameIndex := 38, descriptorIndex := 39, attributes := #[] }, { accessFlags := 25, nameIndex := 121, descriptorIndex := 25, attributes := #[] }, { accessFlags := 25, nameIndex := 131, descriptorIndex := 25, attributes := #[] }, { accessFlags := 25, nameIndex := 137, descriptorIndex := 25, attributes := #[] }, { accessFlags := 25, nameIndex := 143, descriptorIndex := 25, attributes := #[] }, { accessFlags := 25, nameIndex := 53, descriptorIndex := 25, attributes := #[] }, { accessFlags := 25, nameIndex := 24, descriptorIndex := 25, attributes := #[] }, { accessFlags := 25, nameIndex := 162, descriptorIndex := 25, attributes := #[] }, { accessFlags := 25, nameIndex := 187, descriptorIndex := 25, attributes := #[] }, { accessFlags := 26, nameIndex := 48, descriptorIndex := 25, attributes := #[] }, { accessFlags := 25, nameIndex := 277, descriptorIndex := 25, attributes := #[] }, { accessFlags := 25, nameIndex := 280, descriptorIndex := 25, attributes := #[] }, { accessFlags := 25, nameIndex := 282, descriptorIndex := 25, attributes := #[] }, { accessFlags := 25, nameIndex := 284, descriptorIndex := 25, attributes := #[] }, { accessFlags := 25, nameIndex := 286, descriptorIndex := 25, attributes := #[] }, { accessFlags := 25, nameIndex := 288, descriptorIndex := 25, attributes := #[] }, { accessFlags := 25, nameIndex := 290, descriptorIndex := 25, attributes := #[] }, { accessFlags := 25, nameIndex := 292, descriptorIndex := 25, attributes := #[] }, { accessFlags := 26, nameIndex := 108, descriptorIndex := 109, attributes := #[] }, { accessFlags := 25, nameIndex := 294, descriptorIndex := 25, attributes := #[] }])
  fields := #[{ name := "U", type := (.object "jdk/internal/misc/Unsafe"), accessFlags := 24, slot := 0, constantValue := 0 }, { name := "BIG_ENDIAN", type := .boolean, accessFlags := 26, slot := 1, constantValue := 0 }, { name := "LOG2_ARRAY_BOOLEAN_INDEX_SCALE", type := .int, accessFlags := 25, slot := 2, constantValue := 0 }, { name := "LOG2_ARRAY_BYTE_INDEX_SCALE", type := .int, accessFlags := 25, slot := 3, constantValue := 0 }, { name := "LOG2_ARRAY_CHAR_INDEX_SCALE", type := .int, accessFlags := 25, slot := 4, constantValue := 0 }, { name := "LOG2_ARRAY_SHORT_INDEX_SCALE", type := .int, accessFlags := 25, slot := 5, constantValue := 0 }, { name := "LOG2_ARRAY_INT_INDEX_SCALE", type := .int, accessFlags := 25, slot := 6, constantValue := 0 }, { name := "LOG2_ARRAY_LONG_INDEX_SCALE", type := .int, accessFlags := 25, slot := 7, constantValue := 0 }, { name := "LOG2_ARRAY_FLOAT_INDEX_SCALE", type := .int, accessFlags := 25, slot := 8, constantValue := 0 }, { name := "LOG2_ARRAY_DOUBLE_INDEX_SCALE", type := .int, accessFlags := 25, slot := 9, constantValue := 0 }, { name := "LOG2_BYTE_BIT_SIZE", type := .int, accessFlags := 26, slot := 10, constantValue := 0 }, { name := "T_BOOLEAN", type := .int, accessFlags := 25, slot := 11, constantValue := 0 }, { name := "T_CHAR", type := .int, accessFlags := 25, slot := 12, constantValue := 0 }, { name := "T_FLOAT", type := .int, accessFlags := 25, slot := 13, constantValue := 0 }, { name := "T_DOUBLE", type := .int, accessFlags := 25, slot := 14, constantValue := 0 }, { name := "T_BYTE", type := .int, accessFlags := 25, slot := 15, constantValue := 0 }, { name := "T_SHORT", type := .int, accessFlags := 25, slot := 16, constantValue := 0 }, { name := "T_INT", type := .int, accessFlags := 25, slot := 17, constantValue := 0 }, { name := "T_LONG", type := .int, accessFlags := 25, slot := 18, constantValue := 0 }, { name := "JLA", type := (.object "jdk/internal/access/JavaLangAccess"), accessFlags := 26, slot := 19, constantValue := 0 }, { name := "SOFT_MAX_ARRAY_LENGTH", type := .int, accessFlags := 25, slot := 20, constantValue := 0 }]
  methods := #[k23m0, k23m1]
  instanceTypes := #[]
  staticTypes := #[(.object "jdk/internal/misc/Unsafe"), .boolean, .int, .int, .int, .int, .int, .int, .int, .int, .int, .int, .int, .int, .int, .int, .int, .int, .int, (.object "jdk/internal/access/JavaLangAccess"), .int]
  resolved := Array.replicate 378 none
  statics := none }

def pool24 : Array CpInfo := pool [(1, .class_ 2), (0, u "java/lang/Math"), (1, .class_ 6), (1, u "java/lang/Object"), (0, u "<init>"), (0, u "()V"), (89, .class_ 100), (1, u "java/lang/Math$RandomNumberGeneratorHolder"), (71, u "negativeZeroFloatBits"), (0, u "J"), (2, u "negativeZeroDoubleBits"), (21, u "max"), (2, u "min"), (43, u "$assertionsDisabled"), (0, u "Z"), (88, u "(II)I"), (2, u "twoToTheDoubleScaleDown"), (0, u "D"), (4, u "twoToTheDoubleScaleUp"), (9, u "E"), (3, u "PI"), (2, u "TAU"), (2, u "DEGREES_TO_RADIANS"), (0, u "RADIANS_TO_DEGREES")] 94

def k24m0 : Method := { name := "<init>", desc := "()V", sig := { parameters := [], returnType := none }, accessFlags := 2, code := none }
def k24c1 : Code := { maxStack := 2, maxLocals := 2, code := jdk_29_method_65_code, exceptionTable := #[], attributes := #[] }
def k24m1 : Method := { name := "max", desc := "(II)I", sig := { parameters := [.int, .int], returnType := some .int }, accessFlags := 9, code := some k24c1 }
def k24c2 : Code := { maxStack := 2, maxLocals := 2, code := jdk_29_method_69_code, exceptionTable := #[], attributes := #[] }
def k24m2 : Method := { name := "min", desc := "(II)I", sig := { parameters := [.int, .int], returnType := some .int }, accessFlags := 9, code := some k24c2 }
/-- java/lang/Math -/
def k24 : Class := { plain "java/lang/Math" (some 0) with
  accessFlags := 49
  interfaces := #[]
  cf := some (fileOf pool24 1 #[.nestMembers #[98]] #[{ accessFlags := 2, nameIndex := 7, descriptorIndex := 8, attributes := #[] }, { accessFlags := 9, nameIndex := 198, descriptorIndex := 335, attributes := #[] }, { accessFlags := 9, nameIndex := 201, descriptorIndex := 335, attributes := #[] }] 49 4 #[] #[{ accessFlags := 25, nameIndex := 354, descriptorIndex := 339, attributes := #[] }, { accessFlags := 25, nameIndex := 358, descriptorIndex := 339, attributes := #[] }, { accessFlags := 25, nameIndex := 361, descriptorIndex := 339, attributes := #[] }, { accessFlags := 26, nameIndex := 364, descriptorIndex := 339, attributes := #[] }, { accessFlags := 26, nameIndex := 365, descriptorIndex := 339, attributes := #[] }, { accessFlags := 26, nameIndex := 172, descriptorIndex := 173, attributes := #[] }, { accessFlags := 26, nameIndex := 176, descriptorIndex := 173, attributes := #[] }, { accessFlags := 8, nameIndex := 344, descriptorIndex := 339, attributes := #[] }, { accessFlags := 8, nameIndex := 338, descriptorIndex := 339, attributes := #[] }, { accessFlags := 4120, nameIndex := 245, descriptorIndex := 246, attributes := #[] }])
  fields := #[{ name := "E", type := .double, accessFlags := 25, slot := 0, constantValue := 0 }, { name := "PI", type := .double, accessFlags := 25, slot := 1, constantValue := 0 }, { name := "TAU", type := .double, accessFlags := 25, slot := 2, constantValue := 0 }, { name := "DEGREES_TO_RADIANS", type := .double, accessFlags := 26, slot := 3, constantValue := 0 }, { name := "RADIANS_TO_DEGREES", type := .double, accessFlags := 26, slot := 4, constantValue := 0 }, { name := "negativeZeroFloatBits", type := .long, accessFlags := 26, slot := 5, constantValue := 0 }, { name := "negativeZeroDoubleBits", type := .long, accessFlags := 26, slot := 6, constantValue := 0 }, { name := "twoToTheDoubleScaleUp", type := .double, accessFlags := 8, slot := 7, constantValue := 0 }, { name := "twoToTheDoubleScaleDown", type := .double, accessFlags := 8, slot := 8, constantValue := 0 }, { name := "$assertionsDisabled", type := .boolean, accessFlags := 4120, slot := 9, constantValue := 0 }]
  methods := #[k24m0, k24m1, k24m2]
  instanceTypes := #[]
  staticTypes := #[.double, .double, .double, .double, .double, .long, .long, .double, .double, .boolean]
  resolved := Array.replicate 460 none
  statics := none }

def pool25 : Array CpInfo := pool [(2, .class_ 4), (1, u "java/lang/Object"), (0, u "<init>"), (0, u "()V"), (7, .class_ 16), (1, u "java/util/Arrays"), (57, .class_ 76), (1, u "java/util/Arrays$NaturalOrder"), (32, u "()Ljava/lang/Object;"), (3, .class_ 115), (1, u "java/util/Arrays$LegacyMergeSort"), (1, u "Z"), (10, .nameAndType 129 109), (0, u "clone"), (9, u "copyOfRange"), (10, .methodref 151 152), (0, .class_ 153), (0, .nameAndType 154 155), (0, u "java/lang/System"), (0, u "arraycopy"), (0, u "(Ljava/lang/Object;ILjava/lang/Object;II)V"), (146, u "copyOf"), (1, .methodref 305 306), (0, .class_ 307), (0, .nameAndType 308 309), (0, u "java/lang/Math"), (0, u "min"), (0, u "(II)I"), (0, .methodref 311 128), (0, .class_ 312), (0, u "[B"), (26, .methodref 14 340), (0, .nameAndType 341 342), (0, u "copyOfRangeByte"), (0, u "([BII)[B"), (0, .methodref 14 344), (0, .nameAndType 345 346), (0, u "checkLength"), (0, u "(II)V"), (28, .class_ 376), (0, u "java/util/Arrays$ArrayList"), (68, u "$assertionsDisabled"), (269, u "MIN_ARRAY_SORT_GRAN"), (0, u "I"), (2, u "INSERTIONSORT_THRESHOLD"), (149, u "([BI)[B"), (105, .class_ 976), (0, u "java/util/Arrays$ArrayItr")] 52

def k25m0 : Method := { name := "<init>", desc := "()V", sig := { parameters := [], returnType := none }, accessFlags := 2, code := none }
def k25c1 : Code := { maxStack := 6, maxLocals := 3, code := jdk_65_method_121_code, exceptionTable := #[], attributes := #[] }
def k25m1 : Method := { name := "copyOf", desc := "([BI)[B", sig := { parameters := [(.array .byte), .int], returnType := some (.array .byte) }, accessFlags := 9, code := some k25c1 }
def k25c2 : Code := { maxStack := 4, maxLocals := 2, code := jdk_65_method_131_code, exceptionTable := #[], attributes := #[] }
def k25m2 : Method := { name := "checkLength", desc := "(II)V", sig := { parameters := [.int, .int], returnType := none }, accessFlags := 10, code := some k25c2 }
def k25c3 : Code := { maxStack := 3, maxLocals := 3, code := jdk_65_method_132_code, exceptionTable := #[], attributes := #[] }
def k25m3 : Method := { name := "copyOfRange", desc := "([BII)[B", sig := { parameters := [(.array .byte), .int, .int], returnType := some (.array .byte) }, accessFlags := 9, code := some k25c3 }
def k25c4 : Code := { maxStack := 6, maxLocals := 5, code := jdk_65_method_133_code, exceptionTable := #[], attributes := #[] }
def k25m4 : Method := { name := "copyOfRangeByte", desc := "([BII)[B", sig := { parameters := [(.array .byte), .int, .int], returnType := some (.array .byte) }, accessFlags := 10, code := some k25c4 }
/-- java/util/Arrays -/
def k25 : Class := { plain "java/util/Arrays" (some 0) with
  accessFlags := 49
  interfaces := #[]
  cf := some (fileOf pool25 14 #[.nestMembers #[975, 375, 113, 74]] #[{ accessFlags := 2, nameIndex := 5, descriptorIndex := 6, attributes := #[] }, { accessFlags := 9, nameIndex := 302, descriptorIndex := 869, attributes := #[] }, { accessFlags := 10, nameIndex := 345, descriptorIndex := 346, attributes := #[] }, { accessFlags := 9, nameIndex := 139, descriptorIndex := 342, attributes := #[] }, { accessFlags := 10, nameIndex := 341, descriptorIndex := 342, attributes := #[] }] 49 2 #[] #[{ accessFlags := 26, nameIndex := 715, descriptorIndex := 716, attributes := #[] }, { accessFlags := 26, nameIndex := 719, descriptorIndex := 716, attributes := #[] }, { accessFlags := 4120, nameIndex := 445, descriptorIndex := 117, attributes := #[] }])
  fields := #[{ name := "MIN_ARRAY_SORT_GRAN", type := .int, accessFlags := 26, slot := 0, constantValue := 0 }, { name := "INSERTIONSORT_THRESHOLD", type := .int, accessFlags := 26, slot := 1, constantValue := 0 }, { name := "$assertionsDisabled", type := .boolean, accessFlags := 4120, slot := 2, constantValue := 0 }]
  methods := #[k25m0, k25m1, k25m2, k25m3, k25m4]
  instanceTypes := #[]
  staticTypes := #[.int, .int, .boolean]
  resolved := Array.replicate 1029 none
  statics := none }

def pool26 : Array CpInfo := pool [(2, .class_ 4), (1, u "java/lang/Object"), (0, u "<init>"), (0, u "()V"), (1, .class_ 10), (1, u "java/lang/System"), (0, u "allowSecurityManager"), (0, u "I"), (16, u "cons"), (0, u "Ljava/io/Console;"), (77, .class_ 110), (1, u "java/lang/System$CallersHolder"), (43, u "initialErrStream"), (0, u "Ljava/io/PrintStream;"), (19, u "security"), (0, u "Ljava/lang/SecurityManager;"), (31, .class_ 209), (0, u "java/lang/System$1"), (7, u "props"), (0, u "Ljava/util/Properties;"), (2, u "lineSeparator"), (0, u "Ljava/lang/String;"), (96, .class_ 321), (1, u "java/lang/System$LoggerFinder"), (5, .class_ 328), (0, u "java/lang/System$Logger"), (67, u "err"), (2, u "out"), (91, u "notSupportedJnuEncoding"), (15, u "in"), (17, u "initialIn"), (0, u "Ljava/io/InputStream;"), (35, u "bootLayer"), (0, u "Ljava/lang/ModuleLayer;"), (99, .class_ 664), (0, u "java/lang/System$2"), (9, u "NEVER"), (2, u "MAYBE"), (49, u "arraycopy"), (0, u "(Ljava/lang/Object;ILjava/lang/Object;II)V"), (72, .class_ 802), (0, u "java/lang/System$Logger$Level")] 31

def k26m0 : Method := { name := "<init>", desc := "()V", sig := { parameters := [], returnType := none }, accessFlags := 2, code := none }
def k26m1 : Method := { name := "arraycopy", desc := "(Ljava/lang/Object;ILjava/lang/Object;II)V", sig := { parameters := [(.object "java/lang/Object"), .int, (.object "java/lang/Object"), .int, .int], returnType := none }, accessFlags := 265, code := none }
/-- java/lang/System -/
def k26 : Class := { plain "java/lang/System" (some 0) with
  accessFlags := 49
  interfaces := #[]
  cf := some (fileOf pool26 8 #[.nestMembers #[319, 327, 801, 108, 663, 208]] #[{ accessFlags := 2, nameIndex := 5, descriptorIndex := 6, attributes := #[] }, { accessFlags := 265, nameIndex := 727, descriptorIndex := 728, attributes := #[] }] 49 2 #[] #[{ accessFlags := 25, nameIndex := 507, descriptorIndex := 526, attributes := #[] }, { accessFlags := 25, nameIndex := 399, descriptorIndex := 155, attributes := #[] }, { accessFlags := 25, nameIndex := 396, descriptorIndex := 155, attributes := #[] }, { accessFlags := 10, nameIndex := 525, descriptorIndex := 526, attributes := #[] }, { accessFlags := 26, nameIndex := 674, descriptorIndex := 12, attributes := #[] }, { accessFlags := 26, nameIndex := 677, descriptorIndex := 12, attributes := #[] }, { accessFlags := 10, nameIndex := 11, descriptorIndex := 12, attributes := #[] }, { accessFlags := 74, nameIndex := 175, descriptorIndex := 176, attributes := #[] }, { accessFlags := 10, nameIndex := 491, descriptorIndex := 222, attributes := #[] }, { accessFlags := 74, nameIndex := 29, descriptorIndex := 30, attributes := #[] }, { accessFlags := 74, nameIndex := 154, descriptorIndex := 155, attributes := #[] }, { accessFlags := 10, nameIndex := 217, descriptorIndex := 218, attributes := #[] }, { accessFlags := 10, nameIndex := 221, descriptorIndex := 222, attributes := #[] }, { accessFlags := 8, nameIndex := 562, descriptorIndex := 563, attributes := #[] }])
  fields := #[{ name := "in", type := (.object "java/io/InputStream"), accessFlags := 25, slot := 0, constantValue := 0 }, { name := "out", type := (.object "java/io/PrintStream"), accessFlags := 25, slot := 1, constantValue := 0 }, { name := "err", type := (.object "java/io/PrintStream"), accessFlags := 25, slot := 2, constantValue := 0 }, { name := "initialIn", type := (.object "java/io/InputStream"), accessFlags := 10, slot := 3, constantValue := 0 }, { name := "NEVER", type := .int, accessFlags := 26, slot := 4, constantValue := 0 }, { name := "MAYBE", type := .int, accessFlags := 26, slot := 5, constantValue := 0 }, { name := "allowSecurityManager", type := .int, accessFlags := 10, slot := 6, constantValue := 0 }, { name := "security", type := (.object "java/lang/SecurityManager"), accessFlags := 74, slot := 7, constantValue := 0 }, { name := "notSupportedJnuEncoding", type := (.object "java/lang/String"), accessFlags := 10, slot := 8, constantValue := 0 }, { name := "cons", type := (.object "java/io/Console"), accessFlags := 74, slot := 9, constantValue := 0 }, { name := "initialErrStream", type := (.object "java/io/PrintStream"), accessFlags := 74, slot := 10, constantValue := 0 }, { name := "props", type := (.object "java/util/Properties"), accessFlags := 10, slot := 11, constantValue := 0 }, { name := "lineSeparator", type := (.object "java/lang/String"), accessFlags := 10, slot := 12, constantValue := 0 }, { name := "bootLayer", type := (.object "java/lang/ModuleLayer"), accessFlags := 8, slot := 13, constantValue := 0 }]
  methods := #[k26m0, k26m1]
  instanceTypes := #[]
  staticTypes := #[(.object "java/io/InputStream"), (.object "java/io/PrintStream"), (.object "java/io/PrintStream"), (.object "java/io/InputStream"), .int, .int, .int, (.object "java/lang/SecurityManager"), (.object "java/lang/String"), (.object "java/io/Console"), (.object "java/io/PrintStream"), (.object "java/util/Properties"), (.object "java/lang/String"), (.object "java/lang/ModuleLayer")]
  resolved := Array.replicate 834 none
  statics := none }

/-- the primitive byte -/
def k27 : Class := { plain "byte" none with kind := .primitive 'B', accessFlags := 0x411 }
/-- [B -/
def k28 : Class := { plain "[B" (some 0) with kind := .array 27 .byte, interfaces := #[16, 3], accessFlags := 1041 }

/-- the primitive char -/
def k29 : Class := { plain "char" none with kind := .primitive 'C', accessFlags := 0x411 }
/-- [C -/
def k30 : Class := { plain "[C" (some 0) with kind := .array 29 .char, interfaces := #[16, 3], accessFlags := 1041 }

/-- the primitive int -/
def k31 : Class := { plain "int" none with kind := .primitive 'I', accessFlags := 0x411 }
/-- [I -/
def k32 : Class := { plain "[I" (some 0) with kind := .array 31 .int, interfaces := #[16, 3], accessFlags := 1041 }

/-- [Ljava/lang/Object; -/
def k33 : Class := { plain "[Ljava/lang/Object;" (some 0) with kind := .array 0 (.object "java/lang/Object"), interfaces := #[16, 3], accessFlags := 1041 }

def heap : Heap := #[{ cls := 8, slots := #[.long 0, .int 1, .null, .int 0, .null, .int 0, .int 0], vm := .statics 8 },
  { cls := 17, slots := #[.long 0, .int 0, .ref 3, .ref 4], vm := .statics 17 },
  { cls := 21, slots := #[.null, .null, .null], vm := .statics 21 },
  { cls := 33, slots := #[], vm := .none },
  { cls := 33, slots := #[], vm := .none }]
def classes : Array Class := #[k0, k1, k2, k3, k4, k5, k6, k7, k8, k9, k10, k11, k12, k13, k14, k15, k16, k17, k18, k19, k20, k21, k22, k23, k24, k25, k26, k27, k28, k29, k30, k31, k32, k33]
def interned : List (Array UInt16 × Addr) := []
def slotsUsed : Nat := 14
def theMethod : MethodId := ⟨1, 2⟩
def args0 : Array Value := #[.int 1, .int 2, .int 12, .int 13, .int 3]
def aboutOver (below : List Frame) : State where
  vm := { classes := classes, interned := interned.toArray }
  heap := heap
  slotsUsed := slotsUsed
  threads := #[{ frames := .invoking theMethod args0 :: below }]
def below0 : List Frame := [.native { method := ⟨0, 0⟩, args := #[] }]
def about1 : State := aboutOver below0
def p0 : Program := .bare "" "" ""
def e0 : Env := launch0.env 0 0 0
theorem w_frames : about1.frames = Frame.invoking theMethod args0 :: below0 := rfl
set_option maxRecDepth 65536 in
theorem w_args : argsFit about1.vm theMethod args0 = true := by decide +kernel
set_option maxRecDepth 65536 in
theorem w_heap : heapFits about1 = true := by decide +kernel
set_option maxRecDepth 65536 in
theorem w_runnable : about1.curStatus? = some .runnable := by decide +kernel
set_option maxRecDepth 65536 in
theorem w_alone : about1.alone = true := by decide +kernel
set_option maxRecDepth 65536 in
theorem w_named : about1.methodNamed? x = some theMethod := by decide +kernel
set_option maxRecDepth 65536 in
theorem w_hears : about1.hears theMethod below0 = true := by decide +kernel
set_option maxRecDepth 65536 in
theorem w_ripe : about1.ripe theMethod args0 below0 = true := by decide +kernel
theorem w_running : about1.status = .running := rfl
set_option maxRecDepth 65536 in
theorem w_room : about1.hasRoom e0.platform room_1 = true :=
  launch0.hasRoom_least _ room_1 (by decide +kernel) (by decide +kernel) (by decide +kernel) (by decide +kernel) (by decide +kernel) (by decide +kernel)
theorem allAtoms_all (ts : List Jvm.Cond) (a : Array Jvm.Value) (st : Jvm.State) : (allAtoms ts).before a st = ts.all (fun c => c.before a st) := by
  induction ts with
  | nil => rfl
  | cons c t ih =>
    show (Jvm.Cond.and c (allAtoms t)).before a st = _
    rw [Jvm.Cond.before_and, ih, List.all_cons]
def words1 : List Jvm.Cond := Jvm.Cond.code x code maxLocals ret :: tables_1
/-- a 'code' word, met by the world's own term for the bytes: nothing is compared byte by byte -/
theorem code_word {y : MethodName} {bytes : ByteArray} {mx : Nat} {rt : Option FieldType} {a : Array Value} {s : State} {m : MethodId} {meth : Method} {c : Code} (h1 : s.methodNamed? y = some m) (h2 : s.vm.method? m = some meth) (h3 : meth.code = some c) (h4 : c.code = bytes)
    (h5 : (c.maxLocals == mx && c.exceptionTable.isEmpty && decide (c.maxStack ≤ mostOperands) && decide (meth.sig.returnType = rt) && !meth.locks && decide (parseMethodDescriptor y.desc = some meth.sig)) = true) : (Jvm.Cond.code y bytes mx rt).before a s = true := by
  simp only [Bool.and_eq_true, beq_iff_eq, Bool.not_eq_true', decide_eq_true_eq] at h5
  obtain ⟨⟨⟨⟨⟨g1, g2⟩, g3⟩, g4⟩, g5⟩, g6⟩ := h5
  simp [Cond.before, Cond.holds, Cond.value, h1, h2, h3, h4, g1, g2, g3, g4, g5, g6]
def isCode : Jvm.Cond → Bool
  | .code _ _ _ _ => true
  | _ => false
theorem all_split {L : List Jvm.Cond} {P : Jvm.Cond → Bool} (h1 : L.all (fun c => isCode c || P c) = true) (h2 : ∀ c ∈ L.filter isCode, P c = true) : L.all P = true := by
  refine List.all_eq_true.mpr fun c hc => ?_
  have h := List.all_eq_true.mp h1 c hc
  rcases Bool.eq_false_or_eq_true (isCode c) with hi | hi
  · exact h2 c (List.mem_filter.mpr ⟨hc, hi⟩)
  · simpa [hi] using h
set_option maxRecDepth 65536 in
theorem w_c0 : (Jvm.Cond.code x code maxLocals ret).before args0 about1 = true := code_word (m := ⟨1, 2⟩) (meth := k1m2) (c := k1c2) (by decide +kernel) rfl rfl rfl (by decide +kernel)
set_option maxRecDepth 65536 in
theorem w_c1 : (Jvm.Cond.code ({ cls := "com/example/montaje/montaje/xml/XmlElement", name := "<init>", desc := "(Ljava/lang/String;Ljava/lang/String;Ljava/lang/String;ILjava/util/Map;Ljava/util/List;)V" } : Jvm.MethodName) prog_64_method_1_code (7 : Nat) (Option.none : Option Jvm.ClassFile.FieldType)).before args0 about1 = true := code_word (m := ⟨2, 0⟩) (meth := k2m0) (c := k2c0) (by decide +kernel) rfl rfl rfl (by decide +kernel)
set_option maxRecDepth 65536 in
theorem w_c2 : (Jvm.Cond.code ({ cls := "java/lang/Object", name := "<init>", desc := "()V" } : Jvm.MethodName) object_method_1_code (1 : Nat) (Option.none : Option Jvm.ClassFile.FieldType)).before args0 about1 = true := code_word (m := ⟨0, 0⟩) (meth := k0m0) (c := k0c0) (by decide +kernel) rfl rfl rfl (by decide +kernel)
set_option maxRecDepth 65536 in
theorem w_c3 : (Jvm.Cond.code ({ cls := "java/util/ArrayList", name := "<init>", desc := "()V" } : Jvm.MethodName) jdk_38_method_2_code (1 : Nat) (Option.none : Option Jvm.ClassFile.FieldType)).before args0 about1 = true := code_word (m := ⟨17, 0⟩) (meth := k17m0) (c := k17c0) (by decide +kernel) rfl rfl rfl (by decide +kernel)
set_option maxRecDepth 65536 in
theorem w_c4 : (Jvm.Cond.code ({ cls := "java/util/AbstractList", name := "<init>", desc := "()V" } : Jvm.MethodName) jdk_39_method_1_code (1 : Nat) (Option.none : Option Jvm.ClassFile.FieldType)).before args0 about1 = true := code_word (m := ⟨14, 0⟩) (meth := k14m0) (c := k14c0) (by decide +kernel) rfl rfl rfl (by decide +kernel)
set_option maxRecDepth 65536 in
theorem w_c5 : (Jvm.Cond.code ({ cls := "java/util/AbstractCollection", name := "<init>", desc := "()V" } : Jvm.MethodName) jdk_22_method_1_code (1 : Nat) (Option.none : Option Jvm.ClassFile.FieldType)).before args0 about1 = true := code_word (m := ⟨11, 0⟩) (meth := k11m0) (c := k11c0) (by decide +kernel) rfl rfl rfl (by decide +kernel)
set_option maxRecDepth 65536 in
theorem w_c6 : (Jvm.Cond.code ({ cls := "com/example/montaje/montaje/xml/XmlElement", name := "text", desc := "()Ljava/lang/String;" } : Jvm.MethodName) prog_64_method_10_code (1 : Nat) (Option.some (Jvm.ClassFile.FieldType.object "java/lang/String"))).before args0 about1 = true := code_word (m := ⟨2, 1⟩) (meth := k2m1) (c := k2c1) (by decide +kernel) rfl rfl rfl (by decide +kernel)
set_option maxRecDepth 65536 in
theorem w_c7 : (Jvm.Cond.code ({ cls := "java/lang/String", name := "isEmpty", desc := "()Z" } : Jvm.MethodName) jdk_42_method_55_code (1 : Nat) (Option.some Jvm.ClassFile.FieldType.boolean)).before args0 about1 = true := code_word (m := ⟨8, 3⟩) (meth := k8m3) (c := k8c3) (by decide +kernel) rfl rfl rfl (by decide +kernel)
set_option maxRecDepth 65536 in
theorem w_c8 : (Jvm.Cond.code ({ cls := "java/lang/String", name := "length", desc := "()I" } : Jvm.MethodName) jdk_42_method_54_code (1 : Nat) (Option.some Jvm.ClassFile.FieldType.int)).before args0 about1 = true := code_word (m := ⟨8, 2⟩) (meth := k8m2) (c := k8c2) (by decide +kernel) rfl rfl rfl (by decide +kernel)
set_option maxRecDepth 65536 in
theorem w_c9 : (Jvm.Cond.code ({ cls := "java/lang/String", name := "coder", desc := "()B" } : Jvm.MethodName) jdk_42_method_152_code (1 : Nat) (Option.some Jvm.ClassFile.FieldType.byte)).before args0 about1 = true := code_word (m := ⟨8, 6⟩) (meth := k8m6) (c := k8c6) (by decide +kernel) rfl rfl rfl (by decide +kernel)
set_option maxRecDepth 65536 in
theorem w_c10 : (Jvm.Cond.code ({ cls := "com/example/montaje/montaje/xml/XmlElementTextPinLaw", name := "at", desc := "(Ljava/lang/String;II[CII[CI)Z" } : Jvm.MethodName) method_2_code (9 : Nat) (Option.some Jvm.ClassFile.FieldType.boolean)).before args0 about1 = true := code_word (m := ⟨1, 1⟩) (meth := k1m1) (c := k1c1) (by decide +kernel) rfl rfl rfl (by decide +kernel)
set_option maxRecDepth 65536 in
theorem w_c11 : (Jvm.Cond.code ({ cls := "com/example/montaje/montaje/xml/XmlElement", name := "appendText", desc := "([CII)V" } : Jvm.MethodName) prog_64_method_12_code (4 : Nat) (Option.none : Option Jvm.ClassFile.FieldType)).before args0 about1 = true := code_word (m := ⟨2, 2⟩) (meth := k2m2) (c := k2c2) (by decide +kernel) rfl rfl rfl (by decide +kernel)
set_option maxRecDepth 65536 in
theorem w_c12 : (Jvm.Cond.code ({ cls := "java/lang/StringBuilder", name := "<init>", desc := "(I)V" } : Jvm.MethodName) jdk_67_method_2_code (2 : Nat) (Option.none : Option Jvm.ClassFile.FieldType)).before args0 about1 = true := code_word (m := ⟨20, 1⟩) (meth := k20m1) (c := k20c1) (by decide +kernel) rfl rfl rfl (by decide +kernel)
set_option maxRecDepth 65536 in
theorem w_c13 : (Jvm.Cond.code ({ cls := "java/lang/AbstractStringBuilder", name := "<init>", desc := "(I)V" } : Jvm.MethodName) jdk_68_method_2_code (2 : Nat) (Option.none : Option Jvm.ClassFile.FieldType)).before args0 about1 = true := code_word (m := ⟨19, 1⟩) (meth := k19m1) (c := k19c1) (by decide +kernel) rfl rfl rfl (by decide +kernel)
set_option maxRecDepth 65536 in
theorem w_c14 : (Jvm.Cond.code ({ cls := "java/lang/StringBuilder", name := "append", desc := "([CII)Ljava/lang/StringBuilder;" } : Jvm.MethodName) jdk_67_method_12_code (4 : Nat) (Option.some (Jvm.ClassFile.FieldType.object "java/lang/StringBuilder"))).before args0 about1 = true := code_word (m := ⟨20, 2⟩) (meth := k20m2) (c := k20c2) (by decide +kernel) rfl rfl rfl (by decide +kernel)
set_option maxRecDepth 65536 in
theorem w_c15 : (Jvm.Cond.code ({ cls := "java/lang/AbstractStringBuilder", name := "append", desc := "([CII)Ljava/lang/AbstractStringBuilder;" } : Jvm.MethodName) jdk_68_method_29_code (5 : Nat) (Option.some (Jvm.ClassFile.FieldType.object "java/lang/AbstractStringBuilder"))).before args0 about1 = true := code_word (m := ⟨19, 5⟩) (meth := k19m5) (c := k19c5) (by decide +kernel) rfl rfl rfl (by decide +kernel)
set_option maxRecDepth 65536 in
theorem w_c16 : (Jvm.Cond.code ({ cls := "jdk/internal/util/Preconditions", name := "checkFromToIndex", desc := "(IIILjava/util/function/BiFunction;)I" } : Jvm.MethodName) jdk_41_method_12_code (4 : Nat) (Option.some Jvm.ClassFile.FieldType.int)).before args0 about1 = true := code_word (m := ⟨21, 2⟩) (meth := k21m2) (c := k21c2) (by decide +kernel) rfl rfl rfl (by decide +kernel)
set_option maxRecDepth 65536 in
theorem w_c17 : (Jvm.Cond.code ({ cls := "java/lang/AbstractStringBuilder", name := "ensureCapacityInternal", desc := "(I)V" } : Jvm.MethodName) jdk_68_method_9_code (3 : Nat) (Option.none : Option Jvm.ClassFile.FieldType)).before args0 about1 = true := code_word (m := ⟨19, 3⟩) (meth := k19m3) (c := k19c3) (by decide +kernel) rfl rfl rfl (by decide +kernel)
set_option maxRecDepth 65536 in
theorem w_c18 : (Jvm.Cond.code ({ cls := "java/lang/AbstractStringBuilder", name := "appendChars", desc := "([CII)V" } : Jvm.MethodName) jdk_68_method_74_code (9 : Nat) (Option.none : Option Jvm.ClassFile.FieldType)).before args0 about1 = true := code_word (m := ⟨19, 8⟩) (meth := k19m8) (c := k19c8) (by decide +kernel) rfl rfl rfl (by decide +kernel)
set_option maxRecDepth 65536 in
theorem w_c19 : (Jvm.Cond.code ({ cls := "java/lang/AbstractStringBuilder", name := "isLatin1", desc := "()Z" } : Jvm.MethodName) jdk_68_method_68_code (1 : Nat) (Option.some Jvm.ClassFile.FieldType.boolean)).before args0 about1 = true := code_word (m := ⟨19, 7⟩) (meth := k19m7) (c := k19c7) (by decide +kernel) rfl rfl rfl (by decide +kernel)
set_option maxRecDepth 65536 in
theorem w_c20 : (Jvm.Cond.code ({ cls := "java/lang/StringLatin1", name := "canEncode", desc := "(C)Z" } : Jvm.MethodName) jdk_43_method_3_code (1 : Nat) (Option.some Jvm.ClassFile.FieldType.boolean)).before args0 about1 = true := code_word (m := ⟨22, 2⟩) (meth := k22m2) (c := k22c2) (by decide +kernel) rfl rfl rfl (by decide +kernel)
set_option maxRecDepth 65536 in
theorem w_c21 : (Jvm.Cond.code ({ cls := "java/lang/AbstractStringBuilder", name := "newCapacity", desc := "(I)I" } : Jvm.MethodName) jdk_68_method_10_code (6 : Nat) (Option.some Jvm.ClassFile.FieldType.int)).before args0 about1 = true := code_word (m := ⟨19, 4⟩) (meth := k19m4) (c := k19c4) (by decide +kernel) rfl rfl rfl (by decide +kernel)
set_option maxRecDepth 65536 in
theorem w_c22 : (Jvm.Cond.code ({ cls := "jdk/internal/util/ArraysSupport", name := "newLength", desc := "(III)I" } : Jvm.MethodName) jdk_48_method_27_code (4 : Nat) (Option.some Jvm.ClassFile.FieldType.int)).before args0 about1 = true := code_word (m := ⟨23, 1⟩) (meth := k23m1) (c := k23c1) (by decide +kernel) rfl rfl rfl (by decide +kernel)
set_option maxRecDepth 65536 in
theorem w_c23 : (Jvm.Cond.code ({ cls := "java/lang/Math", name := "max", desc := "(II)I" } : Jvm.MethodName) jdk_29_method_65_code (2 : Nat) (Option.some Jvm.ClassFile.FieldType.int)).before args0 about1 = true := code_word (m := ⟨24, 1⟩) (meth := k24m1) (c := k24c1) (by decide +kernel) rfl rfl rfl (by decide +kernel)
set_option maxRecDepth 65536 in
theorem w_c24 : (Jvm.Cond.code ({ cls := "java/util/Arrays", name := "copyOf", desc := "([BI)[B" } : Jvm.MethodName) jdk_65_method_121_code (3 : Nat) (Option.some (Jvm.ClassFile.FieldType.array Jvm.ClassFile.FieldType.byte))).before args0 about1 = true := code_word (m := ⟨25, 1⟩) (meth := k25m1) (c := k25c1) (by decide +kernel) rfl rfl rfl (by decide +kernel)
set_option maxRecDepth 65536 in
theorem w_c25 : (Jvm.Cond.code ({ cls := "java/lang/Math", name := "min", desc := "(II)I" } : Jvm.MethodName) jdk_29_method_69_code (2 : Nat) (Option.some Jvm.ClassFile.FieldType.int)).before args0 about1 = true := code_word (m := ⟨24, 2⟩) (meth := k24m2) (c := k24c2) (by decide +kernel) rfl rfl rfl (by decide +kernel)
set_option maxRecDepth 65536 in
theorem w_c26 : (Jvm.Cond.code ({ cls := "java/lang/StringBuilder", name := "toString", desc := "()Ljava/lang/String;" } : Jvm.MethodName) jdk_67_method_42_code (1 : Nat) (Option.some (Jvm.ClassFile.FieldType.object "java/lang/String"))).before args0 about1 = true := code_word (m := ⟨20, 3⟩) (meth := k20m3) (c := k20c3) (by decide +kernel) rfl rfl rfl (by decide +kernel)
set_option maxRecDepth 65536 in
theorem w_c27 : (Jvm.Cond.code ({ cls := "java/lang/String", name := "<init>", desc := "(Ljava/lang/StringBuilder;)V" } : Jvm.MethodName) jdk_42_method_53_code (2 : Nat) (Option.none : Option Jvm.ClassFile.FieldType)).before args0 about1 = true := code_word (m := ⟨8, 1⟩) (meth := k8m1) (c := k8c1) (by decide +kernel) rfl rfl rfl (by decide +kernel)
set_option maxRecDepth 65536 in
theorem w_c28 : (Jvm.Cond.code ({ cls := "java/lang/String", name := "<init>", desc := "(Ljava/lang/AbstractStringBuilder;Ljava/lang/Void;)V" } : Jvm.MethodName) jdk_42_method_150_code (5 : Nat) (Option.none : Option Jvm.ClassFile.FieldType)).before args0 about1 = true := code_word (m := ⟨8, 5⟩) (meth := k8m5) (c := k8c5) (by decide +kernel) rfl rfl rfl (by decide +kernel)
set_option maxRecDepth 65536 in
theorem w_c29 : (Jvm.Cond.code ({ cls := "java/lang/AbstractStringBuilder", name := "getValue", desc := "()[B" } : Jvm.MethodName) jdk_68_method_64_code (1 : Nat) (Option.some (Jvm.ClassFile.FieldType.array Jvm.ClassFile.FieldType.byte))).before args0 about1 = true := code_word (m := ⟨19, 6⟩) (meth := k19m6) (c := k19c6) (by decide +kernel) rfl rfl rfl (by decide +kernel)
set_option maxRecDepth 65536 in
theorem w_c30 : (Jvm.Cond.code ({ cls := "java/lang/StringBuilder", name := "length", desc := "()I" } : Jvm.MethodName) jdk_67_method_93_code (1 : Nat) (Option.some Jvm.ClassFile.FieldType.int)).before args0 about1 = true := code_word (m := ⟨20, 4⟩) (meth := k20m4) (c := k20c4) (by decide +kernel) rfl rfl rfl (by decide +kernel)
set_option maxRecDepth 65536 in
theorem w_c31 : (Jvm.Cond.code ({ cls := "java/lang/AbstractStringBuilder", name := "length", desc := "()I" } : Jvm.MethodName) jdk_68_method_6_code (1 : Nat) (Option.some Jvm.ClassFile.FieldType.int)).before args0 about1 = true := code_word (m := ⟨19, 2⟩) (meth := k19m2) (c := k19c2) (by decide +kernel) rfl rfl rfl (by decide +kernel)
set_option maxRecDepth 65536 in
theorem w_c32 : (Jvm.Cond.code ({ cls := "java/util/Arrays", name := "copyOfRange", desc := "([BII)[B" } : Jvm.MethodName) jdk_65_method_132_code (3 : Nat) (Option.some (Jvm.ClassFile.FieldType.array Jvm.ClassFile.FieldType.byte))).before args0 about1 = true := code_word (m := ⟨25, 3⟩) (meth := k25m3) (c := k25c3) (by decide +kernel) rfl rfl rfl (by decide +kernel)
set_option maxRecDepth 65536 in
theorem w_c33 : (Jvm.Cond.code ({ cls := "java/util/Arrays", name := "copyOfRangeByte", desc := "([BII)[B" } : Jvm.MethodName) jdk_65_method_133_code (5 : Nat) (Option.some (Jvm.ClassFile.FieldType.array Jvm.ClassFile.FieldType.byte))).before args0 about1 = true := code_word (m := ⟨25, 4⟩) (meth := k25m4) (c := k25c4) (by decide +kernel) rfl rfl rfl (by decide +kernel)
set_option maxRecDepth 65536 in
theorem w_c34 : (Jvm.Cond.code ({ cls := "java/util/Arrays", name := "checkLength", desc := "(II)V" } : Jvm.MethodName) jdk_65_method_131_code (2 : Nat) (Option.none : Option Jvm.ClassFile.FieldType)).before args0 about1 = true := code_word (m := ⟨25, 2⟩) (meth := k25m2) (c := k25c2) (by decide +kernel) rfl rfl rfl (by decide +kernel)
set_option maxRecDepth 65536 in
theorem w_c35 : (Jvm.Cond.code ({ cls := "java/lang/String", name := "charAt", desc := "(I)C" } : Jvm.MethodName) jdk_42_method_56_code (2 : Nat) (Option.some Jvm.ClassFile.FieldType.char)).before args0 about1 = true := code_word (m := ⟨8, 4⟩) (meth := k8m4) (c := k8c4) (by decide +kernel) rfl rfl rfl (by decide +kernel)
set_option maxRecDepth 65536 in
theorem w_c36 : (Jvm.Cond.code ({ cls := "java/lang/String", name := "isLatin1", desc := "()Z" } : Jvm.MethodName) jdk_42_method_154_code (1 : Nat) (Option.some Jvm.ClassFile.FieldType.boolean)).before args0 about1 = true := code_word (m := ⟨8, 7⟩) (meth := k8m7) (c := k8c7) (by decide +kernel) rfl rfl rfl (by decide +kernel)
set_option maxRecDepth 65536 in
theorem w_c37 : (Jvm.Cond.code ({ cls := "java/lang/StringLatin1", name := "charAt", desc := "([BI)C" } : Jvm.MethodName) jdk_43_method_2_code (2 : Nat) (Option.some Jvm.ClassFile.FieldType.char)).before args0 about1 = true := code_word (m := ⟨22, 1⟩) (meth := k22m1) (c := k22c1) (by decide +kernel) rfl rfl rfl (by decide +kernel)
set_option maxRecDepth 65536 in
theorem w_c38 : (Jvm.Cond.code ({ cls := "java/lang/String", name := "checkIndex", desc := "(II)V" } : Jvm.MethodName) jdk_42_method_155_code (2 : Nat) (Option.none : Option Jvm.ClassFile.FieldType)).before args0 about1 = true := code_word (m := ⟨8, 8⟩) (meth := k8m8) (c := k8c8) (by decide +kernel) rfl rfl rfl (by decide +kernel)
set_option maxRecDepth 65536 in
theorem w_c39 : (Jvm.Cond.code ({ cls := "jdk/internal/util/Preconditions", name := "checkIndex", desc := "(IILjava/util/function/BiFunction;)I" } : Jvm.MethodName) jdk_41_method_11_code (3 : Nat) (Option.some Jvm.ClassFile.FieldType.int)).before args0 about1 = true := code_word (m := ⟨21, 1⟩) (meth := k21m1) (c := k21c1) (by decide +kernel) rfl rfl rfl (by decide +kernel)
def codes1 : List Jvm.Cond := [Jvm.Cond.code x code maxLocals ret, Jvm.Cond.code ({ cls := "com/example/montaje/montaje/xml/XmlElement", name := "<init>", desc := "(Ljava/lang/String;Ljava/lang/String;Ljava/lang/String;ILjava/util/Map;Ljava/util/List;)V" } : Jvm.MethodName) prog_64_method_1_code (7 : Nat) (Option.none : Option Jvm.ClassFile.FieldType), Jvm.Cond.code ({ cls := "java/lang/Object", name := "<init>", desc := "()V" } : Jvm.MethodName) object_method_1_code (1 : Nat) (Option.none : Option Jvm.ClassFile.FieldType), Jvm.Cond.code ({ cls := "java/util/ArrayList", name := "<init>", desc := "()V" } : Jvm.MethodName) jdk_38_method_2_code (1 : Nat) (Option.none : Option Jvm.ClassFile.FieldType), Jvm.Cond.code ({ cls := "java/util/AbstractList", name := "<init>", desc := "()V" } : Jvm.MethodName) jdk_39_method_1_code (1 : Nat) (Option.none : Option Jvm.ClassFile.FieldType), Jvm.Cond.code ({ cls := "java/util/AbstractCollection", name := "<init>", desc := "()V" } : Jvm.MethodName) jdk_22_method_1_code (1 : Nat) (Option.none : Option Jvm.ClassFile.FieldType), Jvm.Cond.code ({ cls := "com/example/montaje/montaje/xml/XmlElement", name := "text", desc := "()Ljava/lang/String;" } : Jvm.MethodName) prog_64_method_10_code (1 : Nat) (Option.some (Jvm.ClassFile.FieldType.object "java/lang/String")), Jvm.Cond.code ({ cls := "java/lang/String", name := "isEmpty", desc := "()Z" } : Jvm.MethodName) jdk_42_method_55_code (1 : Nat) (Option.some Jvm.ClassFile.FieldType.boolean), Jvm.Cond.code ({ cls := "java/lang/String", name := "length", desc := "()I" } : Jvm.MethodName) jdk_42_method_54_code (1 : Nat) (Option.some Jvm.ClassFile.FieldType.int), Jvm.Cond.code ({ cls := "java/lang/String", name := "coder", desc := "()B" } : Jvm.MethodName) jdk_42_method_152_code (1 : Nat) (Option.some Jvm.ClassFile.FieldType.byte), Jvm.Cond.code ({ cls := "com/example/montaje/montaje/xml/XmlElementTextPinLaw", name := "at", desc := "(Ljava/lang/String;II[CII[CI)Z" } : Jvm.MethodName) method_2_code (9 : Nat) (Option.some Jvm.ClassFile.FieldType.boolean), Jvm.Cond.code ({ cls := "com/example/montaje/montaje/xml/XmlElement", name := "appendText", desc := "([CII)V" } : Jvm.MethodName) prog_64_method_12_code (4 : Nat) (Option.none : Option Jvm.ClassFile.FieldType), Jvm.Cond.code ({ cls := "java/lang/StringBuilder", name := "<init>", desc := "(I)V" } : Jvm.MethodName) jdk_67_method_2_code (2 : Nat) (Option.none : Option Jvm.ClassFile.FieldType), Jvm.Cond.code ({ cls := "java/lang/AbstractStringBuilder", name := "<init>", desc := "(I)V" } : Jvm.MethodName) jdk_68_method_2_code (2 : Nat) (Option.none : Option Jvm.ClassFile.FieldType), Jvm.Cond.code ({ cls := "java/lang/StringBuilder", name := "append", desc := "([CII)Ljava/lang/StringBuilder;" } : Jvm.MethodName) jdk_67_method_12_code (4 : Nat) (Option.some (Jvm.ClassFile.FieldType.object "java/lang/StringBuilder")), Jvm.Cond.code ({ cls := "java/lang/AbstractStringBuilder", name := "append", desc := "([CII)Ljava/lang/AbstractStringBuilder;" } : Jvm.MethodName) jdk_68_method_29_code (5 : Nat) (Option.some (Jvm.ClassFile.FieldType.object "java/lang/AbstractStringBuilder")), Jvm.Cond.code ({ cls := "jdk/internal/util/Preconditions", name := "checkFromToIndex", desc := "(IIILjava/util/function/BiFunction;)I" } : Jvm.MethodName) jdk_41_method_12_code (4 : Nat) (Option.some Jvm.ClassFile.FieldType.int), Jvm.Cond.code ({ cls := "java/lang/AbstractStringBuilder", name := "ensureCapacityInternal", desc := "(I)V" } : Jvm.MethodName) jdk_68_method_9_code (3 : Nat) (Option.none : Option Jvm.ClassFile.FieldType), Jvm.Cond.code ({ cls := "java/lang/AbstractStringBuilder", name := "appendChars", desc := "([CII)V" } : Jvm.MethodName) jdk_68_method_74_code (9 : Nat) (Option.none : Option Jvm.ClassFile.FieldType), Jvm.Cond.code ({ cls := "java/lang/AbstractStringBuilder", name := "isLatin1", desc := "()Z" } : Jvm.MethodName) jdk_68_method_68_code (1 : Nat) (Option.some Jvm.ClassFile.FieldType.boolean), Jvm.Cond.code ({ cls := "java/lang/StringLatin1", name := "canEncode", desc := "(C)Z" } : Jvm.MethodName) jdk_43_method_3_code (1 : Nat) (Option.some Jvm.ClassFile.FieldType.boolean), Jvm.Cond.code ({ cls := "java/lang/AbstractStringBuilder", name := "newCapacity", desc := "(I)I" } : Jvm.MethodName) jdk_68_method_10_code (6 : Nat) (Option.some Jvm.ClassFile.FieldType.int), Jvm.Cond.code ({ cls := "jdk/internal/util/ArraysSupport", name := "newLength", desc := "(III)I" } : Jvm.MethodName) jdk_48_method_27_code (4 : Nat) (Option.some Jvm.ClassFile.FieldType.int), Jvm.Cond.code ({ cls := "java/lang/Math", name := "max", desc := "(II)I" } : Jvm.MethodName) jdk_29_method_65_code (2 : Nat) (Option.some Jvm.ClassFile.FieldType.int), Jvm.Cond.code ({ cls := "java/util/Arrays", name := "copyOf", desc := "([BI)[B" } : Jvm.MethodName) jdk_65_method_121_code (3 : Nat) (Option.some (Jvm.ClassFile.FieldType.array Jvm.ClassFile.FieldType.byte)), Jvm.Cond.code ({ cls := "java/lang/Math", name := "min", desc := "(II)I" } : Jvm.MethodName) jdk_29_method_69_code (2 : Nat) (Option.some Jvm.ClassFile.FieldType.int), Jvm.Cond.code ({ cls := "java/lang/StringBuilder", name := "toString", desc := "()Ljava/lang/String;" } : Jvm.MethodName) jdk_67_method_42_code (1 : Nat) (Option.some (Jvm.ClassFile.FieldType.object "java/lang/String")), Jvm.Cond.code ({ cls := "java/lang/String", name := "<init>", desc := "(Ljava/lang/StringBuilder;)V" } : Jvm.MethodName) jdk_42_method_53_code (2 : Nat) (Option.none : Option Jvm.ClassFile.FieldType), Jvm.Cond.code ({ cls := "java/lang/String", name := "<init>", desc := "(Ljava/lang/AbstractStringBuilder;Ljava/lang/Void;)V" } : Jvm.MethodName) jdk_42_method_150_code (5 : Nat) (Option.none : Option Jvm.ClassFile.FieldType), Jvm.Cond.code ({ cls := "java/lang/AbstractStringBuilder", name := "getValue", desc := "()[B" } : Jvm.MethodName) jdk_68_method_64_code (1 : Nat) (Option.some (Jvm.ClassFile.FieldType.array Jvm.ClassFile.FieldType.byte)), Jvm.Cond.code ({ cls := "java/lang/StringBuilder", name := "length", desc := "()I" } : Jvm.MethodName) jdk_67_method_93_code (1 : Nat) (Option.some Jvm.ClassFile.FieldType.int), Jvm.Cond.code ({ cls := "java/lang/AbstractStringBuilder", name := "length", desc := "()I" } : Jvm.MethodName) jdk_68_method_6_code (1 : Nat) (Option.some Jvm.ClassFile.FieldType.int), Jvm.Cond.code ({ cls := "java/util/Arrays", name := "copyOfRange", desc := "([BII)[B" } : Jvm.MethodName) jdk_65_method_132_code (3 : Nat) (Option.some (Jvm.ClassFile.FieldType.array Jvm.ClassFile.FieldType.byte)), Jvm.Cond.code ({ cls := "java/util/Arrays", name := "copyOfRangeByte", desc := "([BII)[B" } : Jvm.MethodName) jdk_65_method_133_code (5 : Nat) (Option.some (Jvm.ClassFile.FieldType.array Jvm.ClassFile.FieldType.byte)), Jvm.Cond.code ({ cls := "java/util/Arrays", name := "checkLength", desc := "(II)V" } : Jvm.MethodName) jdk_65_method_131_code (2 : Nat) (Option.none : Option Jvm.ClassFile.FieldType), Jvm.Cond.code ({ cls := "java/lang/String", name := "charAt", desc := "(I)C" } : Jvm.MethodName) jdk_42_method_56_code (2 : Nat) (Option.some Jvm.ClassFile.FieldType.char), Jvm.Cond.code ({ cls := "java/lang/String", name := "isLatin1", desc := "()Z" } : Jvm.MethodName) jdk_42_method_154_code (1 : Nat) (Option.some Jvm.ClassFile.FieldType.boolean), Jvm.Cond.code ({ cls := "java/lang/StringLatin1", name := "charAt", desc := "([BI)C" } : Jvm.MethodName) jdk_43_method_2_code (2 : Nat) (Option.some Jvm.ClassFile.FieldType.char), Jvm.Cond.code ({ cls := "java/lang/String", name := "checkIndex", desc := "(II)V" } : Jvm.MethodName) jdk_42_method_155_code (2 : Nat) (Option.none : Option Jvm.ClassFile.FieldType), Jvm.Cond.code ({ cls := "jdk/internal/util/Preconditions", name := "checkIndex", desc := "(IILjava/util/function/BiFunction;)I" } : Jvm.MethodName) jdk_41_method_11_code (3 : Nat) (Option.some Jvm.ClassFile.FieldType.int)]
set_option maxRecDepth 65536 in
theorem codes_eq : words1.filter isCode = codes1 := rfl
theorem w_codes : ∀ c ∈ words1.filter isCode, c.before args0 about1 = true := by
  rw [codes_eq]
  intro c hc
  simp only [codes1, List.mem_cons, List.not_mem_nil, or_false] at hc
  rcases hc with rfl | rfl | rfl | rfl | rfl | rfl | rfl | rfl | rfl | rfl | rfl | rfl | rfl | rfl | rfl | rfl | rfl | rfl | rfl | rfl | rfl | rfl | rfl | rfl | rfl | rfl | rfl | rfl | rfl | rfl | rfl | rfl | rfl | rfl | rfl | rfl | rfl | rfl | rfl | rfl
  · exact w_c0
  · exact w_c1
  · exact w_c2
  · exact w_c3
  · exact w_c4
  · exact w_c5
  · exact w_c6
  · exact w_c7
  · exact w_c8
  · exact w_c9
  · exact w_c10
  · exact w_c11
  · exact w_c12
  · exact w_c13
  · exact w_c14
  · exact w_c15
  · exact w_c16
  · exact w_c17
  · exact w_c18
  · exact w_c19
  · exact w_c20
  · exact w_c21
  · exact w_c22
  · exact w_c23
  · exact w_c24
  · exact w_c25
  · exact w_c26
  · exact w_c27
  · exact w_c28
  · exact w_c29
  · exact w_c30
  · exact w_c31
  · exact w_c32
  · exact w_c33
  · exact w_c34
  · exact w_c35
  · exact w_c36
  · exact w_c37
  · exact w_c38
  · exact w_c39
set_option maxRecDepth 65536 in
theorem w_t1 : (words1.take 24).all (fun c => isCode c || c.before args0 about1) = true := by decide +kernel
set_option maxRecDepth 65536 in
theorem w_t2 : ((words1.drop 24).take 24).all (fun c => isCode c || c.before args0 about1) = true := by decide +kernel
set_option maxRecDepth 65536 in
theorem w_t3 : (((words1.drop 24).drop 24).take 24).all (fun c => isCode c || c.before args0 about1) = true := by decide +kernel
set_option maxRecDepth 65536 in
theorem w_t4 : ((((words1.drop 24).drop 24).drop 24).take 24).all (fun c => isCode c || c.before args0 about1) = true := by decide +kernel
set_option maxRecDepth 65536 in
theorem w_t5 : (((((words1.drop 24).drop 24).drop 24).drop 24).take 24).all (fun c => isCode c || c.before args0 about1) = true := by decide +kernel
set_option maxRecDepth 65536 in
theorem w_t6 : ((((((words1.drop 24).drop 24).drop 24).drop 24).drop 24).take 24).all (fun c => isCode c || c.before args0 about1) = true := by decide +kernel
set_option maxRecDepth 65536 in
theorem w_t7 : (((((((words1.drop 24).drop 24).drop 24).drop 24).drop 24).drop 24).take 24).all (fun c => isCode c || c.before args0 about1) = true := by decide +kernel
set_option maxRecDepth 65536 in
theorem w_t8 : ((((((((words1.drop 24).drop 24).drop 24).drop 24).drop 24).drop 24).drop 24).take 24).all (fun c => isCode c || c.before args0 about1) = true := by decide +kernel
set_option maxRecDepth 65536 in
theorem w_t9 : (((((((((words1.drop 24).drop 24).drop 24).drop 24).drop 24).drop 24).drop 24).drop 24).take 24).all (fun c => isCode c || c.before args0 about1) = true := by decide +kernel
set_option maxRecDepth 65536 in
theorem w_t10 : (((((((((words1.drop 24).drop 24).drop 24).drop 24).drop 24).drop 24).drop 24).drop 24).drop 24).all (fun c => isCode c || c.before args0 about1) = true := by decide +kernel
theorem w_tables : (allAtoms (Jvm.Cond.code x code maxLocals ret :: tables_1)).before args0 about1 = true := by
  rw [allAtoms_all]
  show words1.all (fun c => c.before args0 about1) = true
  refine all_split ?_ w_codes
  rw [← List.take_append_drop 24 words1, List.all_append, w_t1, ← List.take_append_drop 24 (words1.drop 24), List.all_append, w_t2, ← List.take_append_drop 24 ((words1.drop 24).drop 24), List.all_append, w_t3, ← List.take_append_drop 24 (((words1.drop 24).drop 24).drop 24), List.all_append, w_t4, ← List.take_append_drop 24 ((((words1.drop 24).drop 24).drop 24).drop 24), List.all_append, w_t5, ← List.take_append_drop 24 (((((words1.drop 24).drop 24).drop 24).drop 24).drop 24), List.all_append, w_t6, ← List.take_append_drop 24 ((((((words1.drop 24).drop 24).drop 24).drop 24).drop 24).drop 24), List.all_append, w_t7, ← List.take_append_drop 24 (((((((words1.drop 24).drop 24).drop 24).drop 24).drop 24).drop 24).drop 24), List.all_append, w_t8, ← List.take_append_drop 24 ((((((((words1.drop 24).drop 24).drop 24).drop 24).drop 24).drop 24).drop 24).drop 24), List.all_append, w_t9, w_t10]
  rfl
set_option maxRecDepth 65536 in
theorem w_rest : rest_1_c.before args0 about1 = true := by decide +kernel
set_option maxRecDepth 65536 in
theorem w_case : (Jvm.Cond.and given_1 narrow_1).before args0 about1 = true := by decide +kernel
set_option maxRecDepth 65536 in
theorem w_consts : constsHeld consts_1 about1 := Jvm.Lit.constsHeldB_iff.mp (by decide +kernel)
theorem w_applies : (headSpec (Jvm.Cond.code x code maxLocals ret :: tables_1) room_1).applies x e0.platform about1 = true :=
  (Spec.applies_iff w_frames).mpr ⟨w_running, w_runnable, w_alone, w_named, w_hears, w_ripe, w_room, w_tables⟩
theorem atStart : AtStart classFile x code maxLocals ret World_1 tables_1 room_1 Calls_1 rest_1 Pre_1 launch0 p0 e0 about1 theMethod args0 below0 :=
  ⟨lists_1, trivial, launch0.admits_env _ _ _, launch0.least_env, fairChoices_fair.cas, fairChoices_fair.clock, w_frames, w_args, w_heap, w_applies, ⟨w_consts, trivial⟩, w_rest, w_case⟩
end start1
theorem witness_1 : WitnessClaimed_1 := ⟨start1.p0, start1.e0, start1.about1, start1.theMethod, start1.args0, start1.below0, start1.atStart⟩
end Jvm.Pilot.@@N@@
