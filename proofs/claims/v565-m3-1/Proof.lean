import JvmDerived
import JvmDerived.Pilot.@@N@@Statement
import JvmDerived.Pilot.@@N@@Code
set_option linter.unusedVariables false
set_option linter.unusedSimpArgs false
namespace Jvm.Wk
open Jvm Jvm.ClassFile Sem Op Lib Bundle Jvm.Free Jvm.Stand Jvm.LawKit Jvm.RoadKit
abbrev Fd : Type := String × String × String × Value
abbrev Desc : Type := (String × List Fd) ⊕ (String × FieldType × List Value)
abbrev Ent : Type := Addr × Bool × Desc
def sl (Z : State) (f : Fd) : Nat := Jvm.RoadKit.slotOf Z f.1 f.2.1 f.2.2.1
def Dist (Z : State) : Desc → Prop
  | .inl (_, fs) => (fs.map (sl Z)).Pairwise (fun x y => x ≠ y)
  | .inr _ => True
def Sat (Z : State) (h : Heap) (a : Addr) : Desc → Prop
  | .inl (C, fs) => Exa Z h a C ∧ ∀ f ∈ fs, Fld Z h a f.1 f.2.1 f.2.2.1 f.2.2.2
  | .inr (ad, ty, vs) => ∃ c : Cell, Arr Z h a c ty ∧ c.slots = vs.toArray ∧ vs.length < 2147483648 ∧ (∀ v ∈ vs, fits ty v = true) ∧ (ad ≠ "" → Exa Z h a ad)
def Apart (x y : Ent) : Prop := (x.2.1 = true ∨ y.2.1 = true) → x.1 ≠ y.1
def Hp (Z : State) (EL : Bool × List (String × Nat)) (D : List Ent) (vm : Vm) (h : Heap) : Prop :=
  Ext Z.heap h ∧ CHv Z EL.2 vm h ∧ (∀ x ∈ D, Sat Z h x.1 x.2.2 ∧ (x.2.1 = true → Z.heap.size ≤ x.1 ∧ Safe Z EL.2 vm h x.1 ∧ Dist Z x.2.2)) ∧ D.Pairwise Apart
section Facts
variable {Z : State} {EL : Bool × List (String × Nat)} {D D' : List Ent} {vm vm1 : Vm} {h h' : Heap} {a b : Addr} {d d' : Desc} {s1 : Nat} {v : Value} {x y : Ent}
theorem Sat.ext (E : Ext h h') (S : Sat Z h a d) : Sat Z h' a d := by
  match d, S with
  | .inl (C, fs), S => exact ⟨S.1.ext E, fun f hf => (S.2 f hf).ext E⟩
  | .inr (ad, ty, vs), S => obtain ⟨c, A, r1, r2, r3, r4⟩ := S; exact ⟨c, A.ext E, r1, r2, r3, fun q => (r4 q).ext E⟩
theorem Sat.keep {ws : List Addr} (K : Keep h h' ws) (q : a ∉ ws) (S : Sat Z h a d) : Sat Z h' a d := by
  match d, S with
  | .inl (C, fs), S => exact ⟨S.1.keep K, fun f hf => (S.2 f hf).keep K q⟩
  | .inr (ad, ty, vs), S => obtain ⟨c, A, r1, r2, r3, r4⟩ := S; exact ⟨c, ⟨K.2.1 _ _ A.1 q, A.2⟩, r1, r2, r3, fun q => (r4 q).keep K⟩
theorem Sat.lt (S : Sat Z h a d) : a < h.size := by
  match d, S with
  | .inl (C, fs), S => exact S.1.lt
  | .inr (ad, ty, vs), S => obtain ⟨c, A, -⟩ := S; exact A.lt
theorem Apart.symm (q : Apart x y) : Apart y x := fun r e => q r.symm e.symm
theorem Hp.perm (P : D.Perm D') (H : Hp Z EL D vm h) : Hp Z EL D' vm h :=
  ⟨H.1, H.2.1, fun x hx => H.2.2.1 x (P.mem_iff.mpr hx), (P.pairwise_iff (fun q => Apart.symm q)).mp H.2.2.2⟩
theorem perm_front {α : Type} : ∀ (D : List α) (i : Nat) (x : α), D[i]? = some x → D.Perm (x :: D.eraseIdx i)
  | [], _, _, q => by simp at q
  | y :: D, 0, x, q => by simp at q; subst q; exact List.Perm.refl _
  | y :: D, i + 1, x, q => by
    have q' : D[i]? = some x := by simpa using q
    exact ((perm_front D i x q').cons y).trans (List.Perm.swap x y _)
theorem perm_set {α : Type} : ∀ (D : List α) (i : Nat) (x x' : α), D[i]? = some x → (D.set i x').Perm (x' :: D.eraseIdx i)
  | [], _, _, _, q => by simp at q
  | y :: D, 0, x, x', q => List.Perm.refl _
  | y :: D, i + 1, x, x', q => by
    have q' : D[i]? = some x := by simpa using q
    exact ((perm_set D i x x' q').cons y).trans (List.Perm.swap x' y _)
theorem Hp.new (H : Hp Z EL D vm h) (E : Ext h h') (S : Sat Z h' h.size d) (dd : Dist Z d) : Hp Z EL ((h.size, true, d) :: D) vm h' := by
  obtain ⟨h1, h2, h3, h4⟩ := H
  refine ⟨⟨Nat.le_trans h1.1 E.1, fun a c q => E.2 _ _ (h1.2 _ _ q)⟩, h2.ext E, fun x hx => ?_, List.pairwise_cons.mpr ⟨fun y hy _ => ?_, h4⟩⟩
  · rcases List.mem_cons.mp hx with rfl | hx
    · exact ⟨S, fun _ => ⟨h1.1, Safe.ext E h2 (Safe.new (Nat.le_refl _)), dd⟩⟩
    · exact ⟨(h3 x hx).1.ext E, fun w => ⟨((h3 x hx).2 w).1, Safe.ext E h2 ((h3 x hx).2 w).2.1, ((h3 x hx).2 w).2.2⟩⟩
  · have := (h3 y hy).1.lt
    exact fun e => by rw [← e] at this; exact Nat.lt_irrefl _ this
theorem Hp.keepHead (H : Hp Z EL ((a, true, d) :: D) vm h) (K : Keep h h' [a]) (S : Sat Z h' a d') (dd : Dist Z d') : Hp Z EL ((a, true, d') :: D) vm h' := by
  obtain ⟨h1, h2, h3, h4⟩ := H
  obtain ⟨g1, g2, -⟩ := (h3 _ (List.mem_cons_self ..)).2 rfl
  have hs : ∀ x ∈ [a], Safe Z EL.2 vm h x := fun x hx => by cases List.mem_singleton.mp hx; exact g2
  obtain ⟨p1, p2⟩ := List.pairwise_cons.mp h4
  refine ⟨⟨Nat.le_trans h1.1 K.1, fun b c q => K.2.1 _ _ (h1.2 _ _ q) fun z => ?_⟩, h2.keep K hs, fun x hx => ?_, List.pairwise_cons.mpr ⟨fun y hy r => p1 y hy (Or.inl rfl), p2⟩⟩
  · cases List.mem_singleton.mp z
    exact Nat.lt_irrefl _ (Nat.lt_of_lt_of_le (Array.getElem?_eq_some_iff.mp q).1 g1)
  · rcases List.mem_cons.mp hx with rfl | hx
    · exact ⟨S, fun _ => ⟨g1, Safe.keep K hs h2 g2, dd⟩⟩
    · have ne : x.1 ∉ [a] := fun z => p1 x hx (Or.inl rfl) (List.mem_singleton.mp z).symm
      have hx' := h3 x (List.mem_cons_of_mem _ hx)
      exact ⟨hx'.1.keep K ne, fun w => ⟨(hx'.2 w).1, Safe.keep K hs h2 (hx'.2 w).2.1, (hx'.2 w).2.2⟩⟩
theorem Hp.keepSet {i : Nat} (H : Hp Z EL D vm h) (hi : D[i]? = some (a, true, d)) (K : Keep h h' [a]) (S : Sat Z h' a d') (dd : Dist Z d') : Hp Z EL (D.set i (a, true, d')) vm h' :=
  ((H.perm (perm_front D i _ hi)).keepHead K S dd).perm (perm_set D i _ _ hi).symm
theorem Hp.toVm (H : Hp Z EL D vm h) (C : CHr Z EL.2 vm h vm1 h) : Hp Z EL D vm1 h :=
  ⟨H.1, C.1, fun x hx => ⟨(H.2.2.1 x hx).1, fun w => ⟨((H.2.2.1 x hx).2 w).1, C.safe (H.2.2.1 x hx).1.lt ((H.2.2.1 x hx).2 w).2.1, ((H.2.2.1 x hx).2 w).2.2⟩⟩, H.2.2.2⟩
theorem Hp.sub (H : Hp Z EL D vm h) (q : D'.Sublist D) : Hp Z EL D' vm h := ⟨H.1, H.2.1, fun x hx => H.2.2.1 x (q.subset hx), H.2.2.2.sublist q⟩
theorem Hp.grown (H : Hp Z EL D vm h) (E : Ext h h') (C : CHr Z EL.2 vm h vm1 h') : Hp Z EL D vm1 h' :=
  ⟨⟨Nat.le_trans H.1.1 E.1, fun a c q => E.2 _ _ (H.1.2 _ _ q)⟩, C.1, fun x hx => ⟨(H.2.2.1 x hx).1.ext E, fun w => ⟨((H.2.2.1 x hx).2 w).1, C.safe (H.2.2.1 x hx).1.lt ((H.2.2.1 x hx).2 w).2.1, ((H.2.2.1 x hx).2 w).2.2⟩⟩, H.2.2.2⟩
theorem Hp.read (H : Hp Z EL D vm h) (S : Sat Z h a d) (ne : ∀ x, Safe Z EL.2 vm h x → Z.heap.size ≤ x → x ≠ a) : Hp Z EL ((a, false, d) :: D) vm h := by
  refine ⟨H.1, H.2.1, fun x hx => ?_, List.pairwise_cons.mpr ⟨fun y hy r e => ?_, H.2.2.2⟩⟩
  · rcases List.mem_cons.mp hx with rfl | hx
    · exact ⟨S, fun w => by cases w⟩
    · exact H.2.2.1 x hx
  · rcases r with r | r
    · cases r
    · exact ne y.1 ((H.2.2.1 y hy).2 r).2.1 ((H.2.2.1 y hy).2 r).1 e.symm
theorem Sat.arv {ad : String} {ty : FieldType} {vs : List Value} (dv : Value) (S : Sat Z h a (.inr (ad, ty, vs))) : ∃ k, Arv Z h a k ty (Nat.toInt32 vs.length) vs dv := by
  obtain ⟨c, A, r1, r2, r3, r4⟩ := S
  have e1 : (Nat.toInt32 vs.length).toInt = vs.length := len_toInt r2
  have e2 : (Nat.toInt32 vs.length).toNatClampNeg = vs.length := by simp [Int32.toNatClampNeg, e1]
  refine ⟨c.cls, c, A, rfl, by rw [e2, r1]; simp, fun q => ?_, fun k hk => ?_, fun i hi => ?_⟩
  · rw [Int32.lt_iff_toInt_lt, e1] at q
    have : (0 : Int32).toInt = 0 := rfl
    omega
  · rw [r1] at hk ⊢
    have hk' : k < vs.length := by simpa using hk
    simp [hk']
  · rw [r1] at hi
    have hi' : i < vs.length := by simpa using hi
    have : vs.getD i dv = vs[i] := by simp [hi']
    rw [this]; exact r3 _ (List.getElem_mem hi')
theorem Sat.of_arv {ad : String} {ty : FieldType} {vs : List Value} {k : ClassId} {z : Int32} {dv : Value} (A : Arv Z h a k ty z vs dv) (hl : z.toNatClampNeg = vs.length) (hE : ad ≠ "" → Exa Z h a ad) : Sat Z h a (.inr (ad, ty, vs)) := by
  obtain ⟨c, A, r1, r2, r3, r4, r5⟩ := A
  have hs : c.slots.size = vs.length := r2.trans hl
  refine ⟨c, A, ?_, ?_, fun v hv => ?_, hE⟩
  · apply Array.ext_getElem?
    intro i
    by_cases hi : i < vs.length
    · rw [r4 i (by omega)]; simp [hi]
    · rw [Array.getElem?_eq_none (by omega), Array.getElem?_eq_none (by simpa using Nat.le_of_not_lt hi)]
  · have := (back32 r3).2; omega
  · obtain ⟨i, hi, rfl⟩ := List.mem_iff_getElem.mp hv
    have := r5 i (by omega)
    simpa [hi] using this
end Facts
def Idx (j : Int32) (i : Nat) : Prop := ¬ j < 0 ∧ j.toNatClampNeg = i
theorem Idx.of_nat {i : Nat} (hi : i < 2147483648) : Idx (Nat.toInt32 i) i := by
  have e1 : (Nat.toInt32 i).toInt = i := len_toInt hi
  refine ⟨fun q => ?_, by simp [Int32.toNatClampNeg, e1]⟩
  rw [Int32.lt_iff_toInt_lt, e1] at q
  have : (0 : Int32).toInt = 0 := rfl
  omega
theorem Idx.toInt {j : Int32} {i : Nat} (q : Idx j i) : j.toInt = i := by
  have h1 : ¬ j.toInt < 0 := fun r => q.1 (by rw [Int32.lt_iff_toInt_lt]; exact r)
  have h2 := q.2
  simp only [Int32.toNatClampNeg] at h2
  omega
theorem Idx.of_toInt {j : Int32} {i : Nat} (q : j.toInt = i) : Idx j i := by
  refine ⟨fun r => ?_, by simp [Int32.toNatClampNeg, q]⟩
  rw [Int32.lt_iff_toInt_lt, q] at r
  have : (0 : Int32).toInt = 0 := rfl
  omega
end Jvm.Wk
namespace Jvm.Wk
open Jvm Jvm.ClassFile Sem Op Lib Bundle Jvm.Free Jvm.Stand Jvm.LawKit Jvm.RoadKit
def ELok (Z : State) (EL : Bool × List (String × Nat)) : Prop := (∃ a0, EW Z a0 EL.2) ∧ (EL.1 = true → EL.2 = [])
def Res (Z : State) (EL : Bool × List (String × Nat)) (Q : Option Value → List Ent → Prop) (R : Room) (s : State) (o : Outcome) (t : State) : Prop :=
  ∃ v L, o = .returned v ∧ Fr Z.heap.size L ∧ (∃ D', Hp Z EL D' t.vm t.heap ∧ Q v D') ∧ ReturnedEndW s o t L R.cells R.slots ∧ (EL.1 = true → s.WarmedH t.vm)
def Here (Z : State) (EL : Bool × List (String × Nat)) (R : Room) (own nm : String) (bytes : ByteArray) (ml : Nat) (ret : Option FieldType) (D : List Ent) (k n : Nat)
    (p : Program) (l : Launch) (e : Env) (s : State) (m : MethodId) (args : Array Value) (below : List Frame) (meth : Method) (c : Code) (T : State) (vm0 : Vm) (k0 : Nat) (locs : List Loc) (cells slots : Nat) : Prop :=
  Stand p l e R (s.setVm vm0) m args below meth c T locs cells slots ∧ s.Since vm0 k0 ∧ k0 ≤ T.heap.size ∧ p.tables.exec = Jvm.exec ∧ c.code = bytes ∧ c.maxLocals = ml ∧ vm0.findClass own = some m.cls ∧ Z.Warmed39 vm0 ∧
    meth.sig.returnType = ret ∧ meth.locks = false ∧ meth.name = nm ∧ Fr Z.heap.size locs ∧ Hp Z EL D vm0 T.heap ∧ cells ≤ k ∧ slots ≤ n ∧ ELok Z EL ∧ (EL.1 = true → vm0 = s.vm)
def W (Z : State) (EL : Bool × List (String × Nat)) (R : Room) (own nm : String) (bytes : ByteArray) (ml : Nat) (ret : Option FieldType) (Q : Option Value → List Ent → Prop) (D : List Ent) (k n : Nat) (pc : Nat) (ls : Array Slot) (st : List Value) : Prop :=
  ∀ p l e s m args below meth c T vm0 k0 locs cells slots, Here Z EL R own nm bytes ml ret D k n p l e s m args below meth c T vm0 k0 locs cells slots →
    ∃ s₂ o, Steps p.tables e below (T.setTop (mkF m pc ls st)) s₂ ∧ s₂.status = .running ∧ Ended s₂ below o ∧ Res Z EL Q R s o s₂
def Con (Z : State) (EL : Bool × List (String × Nat)) (y : MethodName) (bytes : ByteArray) (maxL : Nat) (ret : Option FieldType) (rm : Room) (as : List Value) (D : List Ent) (Q : Option Value → List Ent → Prop) : Prop :=
  ELok Z EL → ∀ (l : Launch) (ws : List Cond), MetFree l y (head1 (Cond.code y bytes maxL ret :: ws) rm) (fun a U => a = as.toArray ∧ Z.Warmed39 U.vm ∧ Hp Z EL D U.vm U.heap) (fun _ _ _ _ _ => True) (fun _ U o U' => Res Z EL Q rm U o U')
def SlOk (t : Slot) : Prop := t = .unset ∨ ∃ v : Value, t = .val v ∧ v.category = 1
theorem store_ok {l l' : Array Slot} {i : Nat} {t : Slot} {v : Value} (ht : SlOk t) (h : l[i]? = some t) (h' : storeSelf l i v = some l') : storeLocals l i v = some l' := by
  unfold storeLocals
  rcases ht with rfl | ⟨w, rfl, hw⟩
  · simp only [h, Option.bind_eq_bind, Option.bind_some]; exact h'
  · simp only [h, Option.bind_eq_bind, Option.bind_some]; rw [if_neg (by rw [hw]; decide)]; exact h'
theorem ld0 : Jvm.Sym.laidSlots [] = [] := rfl
theorem ld1 {v : Value} {vs : List Value} {L : List Slot} (h : v.category = 1) (e : Jvm.Sym.laidSlots vs = L) : Jvm.Sym.laidSlots (v :: vs) = .val v :: L := by simp [Jvm.Sym.laidSlots, h, e]
theorem hent_of {as : List Value} {L : List Slot} {ml : Nat} {ls : Array Slot} (e : Jvm.Sym.laidSlots as = L) (h : L ++ List.replicate (ml - L.length) .unset = ls.toList) : Jvm.Sym.laidSlots as ++ List.replicate (ml - (Jvm.Sym.laidSlots as).length) .unset = ls.toList := by rw [e]; exact h
section Walk
variable {Z : State} {EL : Bool × List (String × Nat)} {R : Room} {own nm : String} {bytes : ByteArray} {ml : Nat} {ret : Option FieldType} {Q : Option Value → List Ent → Prop} {D D' : List Ent} {k n pc : Nat} {ls ls' : Array Slot} {st : List Value} {a0 : Array Value}
theorem Con.of {y : MethodName} {as : List Value} (hpl : plainFor y = true) (hent : Jvm.Sym.laidSlots as ++ List.replicate (ml - (Jvm.Sym.laidSlots as).length) .unset = ls.toList) (hW : W Z EL R y.cls y.name bytes ml ret Q D 0 0 0 ls []) : Con Z EL y bytes ml ret R as D Q := by
  intro hE l ws
  refine MetFree.of_bodySF hpl hisR ?_
  intro p e s m args below meth c s₁ Bd hml0 hP hK
  obtain ⟨rfl, hZ, hh⟩ := hP
  have X0 : Stand p l e R s m as.toArray below meth c s₁ [] 0 0 := Stand.of_body Bd
  have e0 : s₁.heap = s.heap := by rw [Bd.state]; rfl
  have hown : s.vm.findClass y.cls = some m.cls := findClass_of_methodNamed Bd.named
  have hnm := (name_of_methodNamed Bd.named Bd.method).1
  obtain ⟨s₂, o, h1, r⟩ := hW p l e s m as.toArray below meth c s₁ s.vm 0 [] 0 0
    ⟨X0, (State.WarmedH.refl s).since 0, Nat.zero_le _, Bd.exec, Bd.bytes, hml0, hown, hZ, Bd.returns, Bd.notSynchronized, hnm, Fr.nil _, by rw [e0]; exact hh, Nat.le_refl _, Nat.le_refl _, hE, fun _ => rfl⟩
  exact ⟨s₂, o, (XT.entry (by simpa using hent)).trans h1, r⟩
theorem W.pure {pc' : Nat} {st' : List Value} (H : ∀ {p : Program} {e : Env} {below : List Frame} {T target : State} {m : MethodId} {c : Code}, At T m c below → p.tables.exec = Jvm.exec → c.code = bytes → Steps p.tables e below (T.setTop (mkF m pc' ls' st')) target → Steps p.tables e below (T.setTop (mkF m pc ls st)) target)
    (next : W Z EL R own nm bytes ml ret Q D k n pc' ls' st') : W Z EL R own nm bytes ml ret Q D k n pc ls st := by
  intro p l e s m args below meth c T vm0 k0 locs cells slots A
  obtain ⟨s₂, o, h1, r⟩ := next p l e s m args below meth c T vm0 k0 locs cells slots A
  exact ⟨s₂, o, H A.1.here A.2.2.2.1 A.2.2.2.2.1 h1, r⟩
theorem W.mono {k' n' : Nat} (hk : k ≤ k') (hn : n ≤ n') (next : W Z EL R own nm bytes ml ret Q D k' n' pc ls st) : W Z EL R own nm bytes ml ret Q D k n pc ls st := by
  intro p l e s m args below meth c T vm0 k0 locs cells slots A
  obtain ⟨X, hS, hk0, hx, hby, hml, hown, hZ, r1, r2, r3, hN, hH, hc, hl, hE, hNI⟩ := A
  exact next p l e s m args below meth c T vm0 k0 locs cells slots ⟨X, hS, hk0, hx, hby, hml, hown, hZ, r1, r2, r3, hN, hH, Nat.le_trans hc hk, Nat.le_trans hl hn, hE, hNI⟩
theorem W.heap (H : ∀ vm h, Hp Z EL D vm h → Hp Z EL D' vm h) (next : W Z EL R own nm bytes ml ret Q D' k n pc ls st) : W Z EL R own nm bytes ml ret Q D k n pc ls st := by
  intro p l e s m args below meth c T vm0 k0 locs cells slots A
  obtain ⟨X, hS, hk0, hx, hby, hml, hown, hZ, r1, r2, r3, hN, hH, hc, hl, hE, hNI⟩ := A
  exact next p l e s m args below meth c T vm0 k0 locs cells slots ⟨X, hS, hk0, hx, hby, hml, hown, hZ, r1, r2, r3, hN, H _ _ hH, hc, hl, hE, hNI⟩
theorem W.perm (P : D.Perm D') (next : W Z EL R own nm bytes ml ret Q D' k n pc ls st) : W Z EL R own nm bytes ml ret Q D k n pc ls st := W.heap (fun _ _ H => H.perm P) next
theorem W.front (i : Nat) {x : Ent} (hi : D[i]? = some x) (hD : x :: D.eraseIdx i = D') (next : W Z EL R own nm bytes ml ret Q D' k n pc ls st) : W Z EL R own nm bytes ml ret Q D k n pc ls st := W.perm (hD ▸ perm_front D i x hi) next
theorem W.drop {x : Ent} (next : W Z EL R own nm bytes ml ret Q D k n pc ls st) : W Z EL R own nm bytes ml ret Q (x :: D) k n pc ls st := W.heap (fun _ _ H => H.sub (List.sublist_cons_self ..)) next
theorem W.aload (i : Nat) {v : Value} (hd : decode bytes pc = .ok (.aload i, 2)) (hl : ls[i]? = some (.val v)) (hv : v.isRef = true) (next : W Z EL R own nm bytes ml ret Q D k n (pc + 2) ls (v :: st)) : W Z EL R own nm bytes ml ret Q D k n pc ls st :=
  W.pure (fun h hx hc hr => XS.aload (g := mkF _ pc ls st) h hx rfl (hb hc hd) hl hv hr) next
theorem W.aloadN {i : Fin 4} {v : Value} (hd : decode bytes pc = .ok (.aload_n i, 1)) (hl : ls[i.val]? = some (.val v)) (hv : v.isRef = true) (next : W Z EL R own nm bytes ml ret Q D k n (pc + 1) ls (v :: st)) : W Z EL R own nm bytes ml ret Q D k n pc ls st :=
  W.pure (fun h hx hc hr => XS.aloadN (g := mkF _ pc ls st) h hx rfl (hb hc hd) hl hv hr) next
theorem W.iload {i : Nat} {v : Int32} (hd : decode bytes pc = .ok (.iload i, 2)) (hl : ls[i]? = some (.val (.int v))) (next : W Z EL R own nm bytes ml ret Q D k n (pc + 2) ls (.int v :: st)) : W Z EL R own nm bytes ml ret Q D k n pc ls st :=
  W.pure (fun h hx hc hr => XS.iload (g := mkF _ pc ls st) h hx rfl (hb hc hd) hl hr) next
theorem W.iloadN {i : Fin 4} {v : Int32} (hd : decode bytes pc = .ok (.iload_n i, 1)) (hl : ls[i.val]? = some (.val (.int v))) (next : W Z EL R own nm bytes ml ret Q D k n (pc + 1) ls (.int v :: st)) : W Z EL R own nm bytes ml ret Q D k n pc ls st :=
  W.pure (fun h hx hc hr => XS.iloadN (g := mkF _ pc ls st) h hx rfl (hb hc hd) hl hr) next
theorem W.astore {i : Nat} {v : Value} (hd : decode bytes pc = .ok (.astore i, 2)) (hv : v.isRef = true) (hl : storeLocals ls i v = some ls') (next : W Z EL R own nm bytes ml ret Q D k n (pc + 2) ls' st) : W Z EL R own nm bytes ml ret Q D k n pc ls (v :: st) :=
  W.pure (fun h hx hc hr => XS.astore (g := mkF _ pc ls (v :: st)) h hx rfl (hb hc hd) rfl hv hl hr) next
theorem W.astoreN {i : Fin 4} {v : Value} (hd : decode bytes pc = .ok (.astore_n i, 1)) (hv : v.isRef = true) (hl : storeLocals ls i.val v = some ls') (next : W Z EL R own nm bytes ml ret Q D k n (pc + 1) ls' st) : W Z EL R own nm bytes ml ret Q D k n pc ls (v :: st) :=
  W.pure (fun h hx hc hr => XS.astoreN (g := mkF _ pc ls (v :: st)) h hx rfl (hb hc hd) rfl hv hl hr) next
theorem W.istore {i : Nat} {v : Int32} (hd : decode bytes pc = .ok (.istore i, 2)) (hl : storeLocals ls i (.int v) = some ls') (next : W Z EL R own nm bytes ml ret Q D k n (pc + 2) ls' st) : W Z EL R own nm bytes ml ret Q D k n pc ls (.int v :: st) :=
  W.pure (fun h hx hc hr => XS.istore (g := mkF _ pc ls (.int v :: st)) h hx rfl (hb hc hd) rfl hl hr) next
theorem W.istoreN {i : Fin 4} {v : Int32} (hd : decode bytes pc = .ok (.istore_n i, 1)) (hl : storeLocals ls i.val (.int v) = some ls') (next : W Z EL R own nm bytes ml ret Q D k n (pc + 1) ls' st) : W Z EL R own nm bytes ml ret Q D k n pc ls (.int v :: st) :=
  W.pure (fun h hx hc hr => XS.istoreN (g := mkF _ pc ls (.int v :: st)) h hx rfl (hb hc hd) rfl hl hr) next
theorem W.iconst {i : Int} (v : Int32) (hd : decode bytes pc = .ok (.iconst i, 1)) (hv : Int32.ofInt i = v) (next : W Z EL R own nm bytes ml ret Q D k n (pc + 1) ls (.int v :: st)) : W Z EL R own nm bytes ml ret Q D k n pc ls st :=
  W.pure (fun h hx hc hr => XT.iconstV (g := mkF _ pc ls st) h hx rfl v (hb hc hd) hv hr) next
theorem W.bipush {i : Int} (v : Int32) (hd : decode bytes pc = .ok (.bipush i, 2)) (hv : (Int8.ofInt i).toInt32 = v) (next : W Z EL R own nm bytes ml ret Q D k n (pc + 2) ls (.int v :: st)) : W Z EL R own nm bytes ml ret Q D k n pc ls st :=
  W.pure (fun h hx hc hr => XT.bipushV (g := mkF _ pc ls st) h hx rfl v (hb hc hd) hv hr) next
theorem W.sipush {i : Int} (v : Int32) (hd : decode bytes pc = .ok (.sipush i, 3)) (hv : (Int16.ofInt i).toInt32 = v) (next : W Z EL R own nm bytes ml ret Q D k n (pc + 3) ls (.int v :: st)) : W Z EL R own nm bytes ml ret Q D k n pc ls st :=
  W.pure (fun h hx hc hr => XT.sipushV (g := mkF _ pc ls st) h hx rfl v (hb hc hd) hv hr) next
theorem W.aconstNull (hd : decode bytes pc = .ok (.aconst_null, 1)) (next : W Z EL R own nm bytes ml ret Q D k n (pc + 1) ls (.null :: st)) : W Z EL R own nm bytes ml ret Q D k n pc ls st :=
  W.pure (fun h hx hc hr => XS.aconstNull (g := mkF _ pc ls st) h hx rfl (hb hc hd) hr) next
theorem W.iinc {i : Nat} {cst : Int} {x : Int32} (v : Int32) (hd : decode bytes pc = .ok (.iinc i cst, 3)) (hv : Int32.ofInt cst = v) (hl : ls[i]? = some (.val (.int x))) (hl' : storeLocals ls i (.int (x + v)) = some ls') (next : W Z EL R own nm bytes ml ret Q D k n (pc + 3) ls' st) : W Z EL R own nm bytes ml ret Q D k n pc ls st :=
  W.pure (fun h hx hc hr => XT.iincV (g := mkF _ pc ls st) h hx rfl v (hb hc hd) hv hl hl' hr) next
theorem W.popv {x : Value} (hd : decode bytes pc = .ok (.pop, 1)) (hc1 : x.category = 1) (next : W Z EL R own nm bytes ml ret Q D k n (pc + 1) ls st) : W Z EL R own nm bytes ml ret Q D k n pc ls (x :: st) :=
  W.pure (fun h hx hc hr => XT.pop (g := mkF _ pc ls (x :: st)) h hx rfl (hb hc hd) rfl hc1 hr) next
theorem W.dup {x : Value} (hd : decode bytes pc = .ok (.dup, 1)) (hc1 : x.category = 1) (next : W Z EL R own nm bytes ml ret Q D k n (pc + 1) ls (x :: x :: st)) : W Z EL R own nm bytes ml ret Q D k n pc ls (x :: st) :=
  W.pure (fun h hx hc hr => XS.dup (g := mkF _ pc ls (x :: st)) h hx rfl (hb hc hd) rfl hc1 hr) next
theorem W.iadd {x y : Int32} (hd : decode bytes pc = .ok (.iadd, 1)) (next : W Z EL R own nm bytes ml ret Q D k n (pc + 1) ls (.int (x + y) :: st)) : W Z EL R own nm bytes ml ret Q D k n pc ls (.int y :: .int x :: st) :=
  W.pure (fun h hx hc hr => XS.iadd (g := mkF _ pc ls (.int y :: .int x :: st)) h hx rfl (hb hc hd) rfl hr) next
theorem W.isub {x y : Int32} (hd : decode bytes pc = .ok (.isub, 1)) (next : W Z EL R own nm bytes ml ret Q D k n (pc + 1) ls (.int (x - y) :: st)) : W Z EL R own nm bytes ml ret Q D k n pc ls (.int y :: .int x :: st) :=
  W.pure (fun h hx hc hr => XS.isub (g := mkF _ pc ls (.int y :: .int x :: st)) h hx rfl (hb hc hd) rfl hr) next
theorem W.irem {x y : Int32} (hd : decode bytes pc = .ok (.irem, 1)) (hy : y ≠ 0) (next : W Z EL R own nm bytes ml ret Q D k n (pc + 1) ls (.int (x % y) :: st)) : W Z EL R own nm bytes ml ret Q D k n pc ls (.int y :: .int x :: st) := by
  intro p l e s m args below meth c T vm0 k0 locs cells slots A
  obtain ⟨s₂, o, h1, r⟩ := next p l e s m args below meth c T vm0 k0 locs cells slots A
  exact ⟨s₂, o, iremM (g := mkF m pc ls (.int y :: .int x :: st)) A.1 A.2.2.2.1 rfl (hb A.2.2.2.2.1 hd) rfl hy h1, r⟩
theorem W.iand {x y : Int32} (hd : decode bytes pc = .ok (.iand, 1)) (next : W Z EL R own nm bytes ml ret Q D k n (pc + 1) ls (.int (x &&& y) :: st)) : W Z EL R own nm bytes ml ret Q D k n pc ls (.int y :: .int x :: st) :=
  W.pure (fun h hx hc hr => XS.iand (g := mkF _ pc ls (.int y :: .int x :: st)) h hx rfl (hb hc hd) rfl hr) next
theorem W.ior {x y : Int32} (hd : decode bytes pc = .ok (.ior, 1)) (next : W Z EL R own nm bytes ml ret Q D k n (pc + 1) ls (.int (x ||| y) :: st)) : W Z EL R own nm bytes ml ret Q D k n pc ls (.int y :: .int x :: st) :=
  W.pure (fun h hx hc hr => XT.ior (g := mkF _ pc ls (.int y :: .int x :: st)) h hx rfl (hb hc hd) rfl hr) next
theorem W.ishl {x y : Int32} (hd : decode bytes pc = .ok (.ishl, 1)) (next : W Z EL R own nm bytes ml ret Q D k n (pc + 1) ls (.int (x <<< (y &&& 31)) :: st)) : W Z EL R own nm bytes ml ret Q D k n pc ls (.int y :: .int x :: st) :=
  W.pure (fun h hx hc hr => XT.ishl (g := mkF _ pc ls (.int y :: .int x :: st)) h hx rfl (hb hc hd) rfl hr) next
theorem W.ishr {x y : Int32} (hd : decode bytes pc = .ok (.ishr, 1)) (next : W Z EL R own nm bytes ml ret Q D k n (pc + 1) ls (.int (x >>> (y &&& 31)) :: st)) : W Z EL R own nm bytes ml ret Q D k n pc ls (.int y :: .int x :: st) :=
  W.pure (fun h hx hc hr => XT.ishr (g := mkF _ pc ls (.int y :: .int x :: st)) h hx rfl (hb hc hd) rfl hr) next
theorem W.iushr {x y : Int32} (hd : decode bytes pc = .ok (.iushr, 1)) (next : W Z EL R own nm bytes ml ret Q D k n (pc + 1) ls (.int (XT.ushr x y) :: st)) : W Z EL R own nm bytes ml ret Q D k n pc ls (.int y :: .int x :: st) :=
  W.pure (fun h hx hc hr => XT.iushr (g := mkF _ pc ls (.int y :: .int x :: st)) h hx rfl (hb hc hd) rfl hr) next
theorem W.i2b {x : Int32} (hd : decode bytes pc = .ok (.i2b, 1)) (next : W Z EL R own nm bytes ml ret Q D k n (pc + 1) ls (.int x.toInt8.toInt32 :: st)) : W Z EL R own nm bytes ml ret Q D k n pc ls (.int x :: st) :=
  W.pure (fun h hx hc hr => XT.i2b (g := mkF _ pc ls (.int x :: st)) h hx rfl (hb hc hd) rfl hr) next
theorem W.i2c {x : Int32} (hd : decode bytes pc = .ok (.i2c, 1)) (next : W Z EL R own nm bytes ml ret Q D k n (pc + 1) ls (.int x.toUInt32.toUInt16.toUInt32.toInt32 :: st)) : W Z EL R own nm bytes ml ret Q D k n pc ls (.int x :: st) :=
  W.pure (fun h hx hc hr => XT.i2c (g := mkF _ pc ls (.int x :: st)) h hx rfl (hb hc hd) rfl hr) next
theorem W.goto (pc' : Nat) {o : Int} (hd : decode bytes pc = .ok (.goto o, 3)) (ho : 0 ≤ (pc : Int) + o ∧ ((pc : Int) + o).toNat = pc') (next : W Z EL R own nm bytes ml ret Q D k n pc' ls st) : W Z EL R own nm bytes ml ret Q D k n pc ls st :=
  W.pure (fun h hx hc hr => XS.goto (g := mkF _ pc ls st) h hx rfl rfl (hb hc hd) ho.1 ho.2 hr) next
def Cd : ClassFile.Cond → Int32 → Int32 → Prop
  | .eq, x, y => x = y
  | .ne, x, y => ¬ x = y
  | .lt, x, y => x < y
  | .ge, x, y => ¬ x < y
  | .gt, x, y => y < x
  | .le, x, y => ¬ y < x
theorem Cd.yes {cd : ClassFile.Cond} {x y : Int32} (q : Cd cd x y) : if_icmp.holds cd x y = true := by
  cases cd <;> first | exact (teq q).1 | exact (feq q).2 | exact (tlt q).1 | exact (flt q).2.1 | exact (tlt q).2.2.1 | exact (flt q).2.2.2
theorem Cd.no {cd : ClassFile.Cond} {x y : Int32} (q : ¬ Cd cd x y) : if_icmp.holds cd x y = false := by
  cases cd <;> first | exact (feq q).1 | exact (teq (Classical.not_not.mp q)).2 | exact (flt q).1 | exact (tlt (Classical.not_not.mp q)).2.1 | exact (flt q).2.2.1 | exact (tlt (Classical.not_not.mp q)).2.2.2
theorem W.icmpY (pc' : Nat) {cd : ClassFile.Cond} {x y : Int32} {o : Int} (hd : decode bytes pc = .ok (.if_icmp cd o, 3)) (q : Cd cd x y) (ho : 0 ≤ (pc : Int) + o ∧ ((pc : Int) + o).toNat = pc') (next : W Z EL R own nm bytes ml ret Q D k n pc' ls st) : W Z EL R own nm bytes ml ret Q D k n pc ls (.int y :: .int x :: st) :=
  W.pure (fun h hx hc hr => XS.icmpYes (g := mkF _ pc ls (.int y :: .int x :: st)) h hx rfl rfl (hb hc hd) rfl q.yes ho.1 ho.2 hr) next
theorem W.icmpN {cd : ClassFile.Cond} {x y : Int32} {o : Int} (hd : decode bytes pc = .ok (.if_icmp cd o, 3)) (q : ¬ Cd cd x y) (next : W Z EL R own nm bytes ml ret Q D k n (pc + 3) ls st) : W Z EL R own nm bytes ml ret Q D k n pc ls (.int y :: .int x :: st) :=
  W.pure (fun h hx hc hr => XS.icmpNo (g := mkF _ pc ls (.int y :: .int x :: st)) h hx rfl (hb hc hd) rfl (Cd.no q) hr) next
theorem W.icmp (pc' : Nat) {cd : ClassFile.Cond} {x y : Int32} {o : Int} (hd : decode bytes pc = .ok (.if_icmp cd o, 3)) (ho : 0 ≤ (pc : Int) + o ∧ ((pc : Int) + o).toNat = pc') (nextY : Cd cd x y → W Z EL R own nm bytes ml ret Q D k n pc' ls st) (nextN : ¬ Cd cd x y → W Z EL R own nm bytes ml ret Q D k n (pc + 3) ls st) : W Z EL R own nm bytes ml ret Q D k n pc ls (.int y :: .int x :: st) := by
  by_cases q : Cd cd x y
  · exact W.icmpY pc' hd q ho (nextY q)
  · exact W.icmpN hd q (nextN q)
theorem W.ifY (pc' : Nat) {cd : ClassFile.Cond} {x : Int32} {o : Int} (hd : decode bytes pc = .ok (.ifCond cd o, 3)) (q : Cd cd x 0) (ho : 0 ≤ (pc : Int) + o ∧ ((pc : Int) + o).toNat = pc') (next : W Z EL R own nm bytes ml ret Q D k n pc' ls st) : W Z EL R own nm bytes ml ret Q D k n pc ls (.int x :: st) :=
  W.pure (fun h hx hc hr => XS.ifYes (g := mkF _ pc ls (.int x :: st)) h hx rfl rfl (hb hc hd) rfl ((if0 _ _).trans q.yes) ho.1 ho.2 hr) next
theorem W.ifN {cd : ClassFile.Cond} {x : Int32} {o : Int} (hd : decode bytes pc = .ok (.ifCond cd o, 3)) (q : ¬ Cd cd x 0) (next : W Z EL R own nm bytes ml ret Q D k n (pc + 3) ls st) : W Z EL R own nm bytes ml ret Q D k n pc ls (.int x :: st) :=
  W.pure (fun h hx hc hr => XS.ifNo (g := mkF _ pc ls (.int x :: st)) h hx rfl (hb hc hd) rfl ((if0 _ _).trans (Cd.no q)) hr) next
theorem W.if (pc' : Nat) {cd : ClassFile.Cond} {x : Int32} {o : Int} (hd : decode bytes pc = .ok (.ifCond cd o, 3)) (ho : 0 ≤ (pc : Int) + o ∧ ((pc : Int) + o).toNat = pc') (nextY : Cd cd x 0 → W Z EL R own nm bytes ml ret Q D k n pc' ls st) (nextN : ¬ Cd cd x 0 → W Z EL R own nm bytes ml ret Q D k n (pc + 3) ls st) : W Z EL R own nm bytes ml ret Q D k n pc ls (.int x :: st) := by
  by_cases q : Cd cd x 0
  · exact W.ifY pc' hd q ho (nextY q)
  · exact W.ifN hd q (nextN q)
theorem W.ifnonnullY (pc' : Nat) {o : Int} {a : Addr} (hd : decode bytes pc = .ok (.ifnonnull o, 3)) (ho : 0 ≤ (pc : Int) + o ∧ ((pc : Int) + o).toNat = pc') (next : W Z EL R own nm bytes ml ret Q D k n pc' ls st) : W Z EL R own nm bytes ml ret Q D k n pc ls (.ref a :: st) :=
  W.pure (fun h hx hc hr => XT.ifnonnullYes (g := mkF _ pc ls (.ref a :: st)) h hx rfl rfl (hb hc hd) rfl ho.1 ho.2 hr) next
theorem W.ifnonnullN {o : Int} (hd : decode bytes pc = .ok (.ifnonnull o, 3)) (next : W Z EL R own nm bytes ml ret Q D k n (pc + 3) ls st) : W Z EL R own nm bytes ml ret Q D k n pc ls (.null :: st) :=
  W.pure (fun h hx hc hr => XT.ifnonnullNo (g := mkF _ pc ls (.null :: st)) h hx rfl (hb hc hd) rfl hr) next
def Ca : ClassFile.ACond → Value → Value → Prop
  | .eq, x, y => x = y
  | .ne, x, y => ¬ x = y
theorem Ca.yes {cd : ClassFile.ACond} {x y : Value} (q : Ca cd x y) : XT.acmp cd x y = true := by
  cases cd
  · exact XT.aa_eq_t q
  · exact XT.aa_ne_t q
theorem Ca.no {cd : ClassFile.ACond} {x y : Value} (q : ¬ Ca cd x y) : XT.acmp cd x y = false := by
  cases cd
  · exact XT.aa_eq_f q
  · exact XT.aa_ne_f (Classical.not_not.mp q)
theorem W.acmpY (pc' : Nat) {cd : ClassFile.ACond} {x y : Value} {o : Int} (hd : decode bytes pc = .ok (.if_acmp cd o, 3)) (hx1 : x.isRef = true) (hy1 : y.isRef = true) (q : Ca cd x y) (ho : 0 ≤ (pc : Int) + o ∧ ((pc : Int) + o).toNat = pc') (next : W Z EL R own nm bytes ml ret Q D k n pc' ls st) : W Z EL R own nm bytes ml ret Q D k n pc ls (y :: x :: st) :=
  W.pure (fun h hx hc hr => XT.acmpYes (g := mkF _ pc ls (y :: x :: st)) h hx rfl rfl (hb hc hd) rfl hx1 hy1 q.yes ho.1 ho.2 hr) next
theorem W.acmpN {cd : ClassFile.ACond} {x y : Value} {o : Int} (hd : decode bytes pc = .ok (.if_acmp cd o, 3)) (hx1 : x.isRef = true) (hy1 : y.isRef = true) (q : ¬ Ca cd x y) (next : W Z EL R own nm bytes ml ret Q D k n (pc + 3) ls st) : W Z EL R own nm bytes ml ret Q D k n pc ls (y :: x :: st) :=
  W.pure (fun h hx hc hr => XT.acmpNo (g := mkF _ pc ls (y :: x :: st)) h hx rfl (hb hc hd) rfl hx1 hy1 (Ca.no q) hr) next
theorem W.acmp (pc' : Nat) {cd : ClassFile.ACond} {x y : Value} {o : Int} (hd : decode bytes pc = .ok (.if_acmp cd o, 3)) (hx1 : x.isRef = true) (hy1 : y.isRef = true) (ho : 0 ≤ (pc : Int) + o ∧ ((pc : Int) + o).toNat = pc') (nextY : Ca cd x y → W Z EL R own nm bytes ml ret Q D k n pc' ls st) (nextN : ¬ Ca cd x y → W Z EL R own nm bytes ml ret Q D k n (pc + 3) ls st) : W Z EL R own nm bytes ml ret Q D k n pc ls (y :: x :: st) := by
  by_cases q : Ca cd x y
  · exact W.acmpY pc' hd hx1 hy1 q ho (nextY q)
  · exact W.acmpN hd hx1 hy1 q (nextN q)
end Walk
end Jvm.Wk
namespace Jvm.Wk
open Jvm Jvm.ClassFile Sem Op Lib Bundle Jvm.Free Jvm.Stand Jvm.LawKit Jvm.RoadKit
section Walk
variable {Z : State} {EL : Bool × List (String × Nat)} {R : Room} {own nm : String} {bytes : ByteArray} {ml : Nat} {ret : Option FieldType} {Q : Option Value → List Ent → Prop} {D D' : List Ent} {k n pc : Nat} {ls ls' : Array Slot} {st : List Value} {a0 : Array Value}
theorem W.still {pc' : Nat} {st' : List Value}
    (H : ∀ {p : Program} {l : Launch} {e : Env} {s : State} {m : MethodId} {args : Array Value} {below : List Frame} {meth : Method} {c : Code} {T : State} {locs : List Loc} {cells slots : Nat}, Stand p l e R s m args below meth c T locs cells slots → p.tables.exec = Jvm.exec → c.code = bytes → c.maxLocals = ml → s.vm.findClass own = some m.cls → Z.Warmed39 s.vm → (∃ vm, Hp Z EL D vm T.heap) →
      ∃ T', Stand p l e R s m args below meth c T' locs cells slots ∧ T'.heap = T.heap ∧ ∀ target, Steps p.tables e below (T'.setTop (mkF m pc' ls' st')) target → Steps p.tables e below (T.setTop (mkF m pc ls st)) target)
    (next : W Z EL R own nm bytes ml ret Q D k n pc' ls' st') : W Z EL R own nm bytes ml ret Q D k n pc ls st := by
  intro p l e s m args below meth c T vm0 k0 locs cells slots A
  obtain ⟨X, hS, hk0, hx, hby, hml, hown, hZ, r1, r2, r3, hN, hH, hc, hl, hE, hNI⟩ := A
  obtain ⟨T', X', e', stp⟩ := H X hx hby hml hown hZ ⟨_, hH⟩
  obtain ⟨s₂, o, h1, r⟩ := next p l e s m args below meth c T' vm0 k0 locs cells slots ⟨X', hS, by rw [e']; exact hk0, hx, hby, hml, hown, hZ, r1, r2, r3, hN, by rw [e']; exact hH, hc, hl, hE, hNI⟩
  exact ⟨s₂, o, stp _ h1, r⟩
theorem W.getf {a : Addr} {b : Bool} {C O f d R0 : String} {fs : List Fd} {v : Value} {idx : Nat} (hd : decode bytes pc = .ok (.getfield idx, 3)) (w : (Cond.fieldLink own idx R0 f d).before a0 Z = true) (via : Via Z R0 O f d) (hm : (a, b, .inl (C, fs)) ∈ D) (hf : (O, f, d, v) ∈ fs)
    (next : W Z EL R own nm bytes ml ret Q D k n (pc + 3) ls (v :: st)) : W Z EL R own nm bytes ml ret Q D k n pc ls (.ref a :: st) :=
  W.still (fun X hx hby hml hown hZ hH => by
    obtain ⟨vm, hH⟩ := hH
    exact getF (host := "") X hx hZ hown (Or.inl w) via rfl ((hH.2.2.1 _ hm).1.2 _ hf) (g := mkF _ pc ls (.ref a :: st)) rfl rfl (hb hby hd)) next
theorem W.gets {O f d R0 : String} {v : Value} {idx : Nat} (hd : decode bytes pc = .ok (.getstatic idx, 3)) (w : (Cond.fieldLink own idx R0 f d).before a0 Z = true) (via : Via Z R0 O f d) (F : Sta Z Z.heap O f d v)
    (next : W Z EL R own nm bytes ml ret Q D k n (pc + 3) ls (v :: st)) : W Z EL R own nm bytes ml ret Q D k n pc ls st :=
  W.still (fun X hx hby hml hown hZ hH => by
    obtain ⟨vm, hH⟩ := hH
    exact getS (host := "") X hx hZ hown w via rfl (F.ext hH.1) (g := mkF _ pc ls st) rfl (hb hby hd)) next
theorem W.alen {a : Addr} {b : Bool} {ad : String} {ty : FieldType} {vs : List Value} (z : Int32) (hd : decode bytes pc = .ok (.arraylength, 1)) (hm : (a, b, .inr (ad, ty, vs)) ∈ D) (hz : Nat.toInt32 vs.length = z)
    (next : W Z EL R own nm bytes ml ret Q D k n (pc + 1) ls (.int z :: st)) : W Z EL R own nm bytes ml ret Q D k n pc ls (.ref a :: st) :=
  W.still (fun X hx hby hml hown hZ hH => by
    obtain ⟨vm, hH⟩ := hH
    obtain ⟨c, A, r1, -⟩ := (hH.2.2.1 _ hm).1
    refine ⟨_, X, rfl, fun target ht => ?_⟩
    refine X.arraylength hx A.1 (State.isArrayOf_alike hZ.alike A.2.1) (g := mkF _ pc ls (.ref a :: st)) rfl rfl (hb hby hd) target ?_
    rw [r1]
    have : vs.toArray.size = vs.length := by simp
    rw [this, hz]; exact ht) next
theorem idx_in' {j : Int32} {i : Nat} {vs : List Value} {c : Cell} (r1 : c.slots = vs.toArray) (hj : Idx j i) (hi : i < vs.length) : ¬ (j < 0 ∨ c.slots.size ≤ j.toNatClampNeg) := by
  rw [r1, hj.2]; rintro (q | q)
  · exact hj.1 q
  · simp at q; omega
theorem idx_at' {j : Int32} {i : Nat} {vs : List Value} {c : Cell} {v : Value} (r1 : c.slots = vs.toArray) (hj : Idx j i) (hv : vs[i]? = some v) : c.slots[j.toNatClampNeg]? = some v := by
  rw [r1, hj.2]; simpa using hv
theorem lt_of_at {vs : List Value} {i : Nat} {v : Value} (hv : vs[i]? = some v) : i < vs.length := (List.getElem?_eq_some_iff.mp hv).1
theorem W.caload {a : Addr} {b : Bool} {ad : String} {vs : List Value} {j : Int32} (i : Nat) {v : Value} (hd : decode bytes pc = .ok (.caload, 1)) (hm : (a, b, .inr (ad, .char, vs)) ∈ D) (hj : Idx j i) (hv : vs[i]? = some v)
    (next : W Z EL R own nm bytes ml ret Q D k n (pc + 1) ls (v :: st)) : W Z EL R own nm bytes ml ret Q D k n pc ls (.int j :: .ref a :: st) :=
  W.still (fun X hx hby hml hown hZ hH => by
    obtain ⟨vm, hH⟩ := hH
    obtain ⟨c, A, r1, -⟩ := (hH.2.2.1 _ hm).1
    exact ⟨_, X, rfl, fun target ht => X.caload hx A.1 (State.isArrayOf_alike hZ.alike A.2.1) A.2.2 (idx_in' r1 hj (lt_of_at hv)) (idx_at' r1 hj hv) (g := mkF _ pc ls (.int j :: .ref a :: st)) rfl rfl (hb hby hd) target ht⟩) next
theorem W.baload {a : Addr} {b : Bool} {ad : String} {vs : List Value} {j : Int32} (i : Nat) {v : Value} (hd : decode bytes pc = .ok (.baload, 1)) (hm : (a, b, .inr (ad, .byte, vs)) ∈ D) (hj : Idx j i) (hv : vs[i]? = some v)
    (next : W Z EL R own nm bytes ml ret Q D k n (pc + 1) ls (v :: st)) : W Z EL R own nm bytes ml ret Q D k n pc ls (.int j :: .ref a :: st) :=
  W.still (fun X hx hby hml hown hZ hH => by
    obtain ⟨vm, hH⟩ := hH
    obtain ⟨c, A, r1, -⟩ := (hH.2.2.1 _ hm).1
    exact ⟨_, X, rfl, fun target ht => X.baloadBytes hx A.1 (State.isArrayOf_alike hZ.alike A.2.1) A.2.2 (idx_in' r1 hj (lt_of_at hv)) (idx_at' r1 hj hv) (g := mkF _ pc ls (.int j :: .ref a :: st)) rfl rfl (hb hby hd) target ht⟩) next
theorem W.ldcI {idx : Nat} {v : Int32} (hd : decode bytes pc = .ok (.ldc idx, 2)) (w : (Cond.constant own idx v).before a0 Z = true) (next : W Z EL R own nm bytes ml ret Q D k n (pc + 2) ls (.int v :: st)) : W Z EL R own nm bytes ml ret Q D k n pc ls st :=
  W.still (fun X hx hby hml hown hZ hH => ⟨_, X, rfl, fun target ht => X.ldcI hx hown (mvT hZ w) (g := mkF _ pc ls st) rfl (hb hby hd) ht⟩) next
theorem W.castY {a : Addr} {K : String} {idx : Nat} (hd : decode bytes pc = .ok (.checkcast idx, 3)) (w : (Cond.classLink own idx K).before a0 Z = true) (hI : ∀ vm h, Hp Z EL D vm h → Ins Z h a K true) (next : W Z EL R own nm bytes ml ret Q D k n (pc + 3) ls (.ref a :: st)) : W Z EL R own nm bytes ml ret Q D k n pc ls (.ref a :: st) :=
  W.still (fun X hx hby hml hown hZ hH => by
    obtain ⟨vm, hH⟩ := hH
    exact Jvm.RoadKit.castY X hx hZ hown w rfl (hI _ _ hH) (g := mkF _ pc ls (.ref a :: st)) rfl rfl (hb hby hd)) next
theorem Hp.exa {D : List Ent} {a : Addr} {b : Bool} {C : String} {fs : List Fd} (hm : (a, b, .inl (C, fs)) ∈ D) : ∀ vm h, Hp Z EL D vm h → Exa Z h a C := fun _ _ H => (H.2.2.1 _ hm).1.1
theorem Hp.ins {D : List Ent} {a : Addr} {b : Bool} {C : String} {fs : List Fd} (hm : (a, b, .inl (C, fs)) ∈ D) : ∀ vm h, Hp Z EL D vm h → Ins Z h a C true := fun _ _ H => Ins.self (H.2.2.1 _ hm).1.1
theorem Hp.exaA {D : List Ent} {a : Addr} {b : Bool} {ad : String} {ty : FieldType} {vs : List Value} (hm : (a, b, .inr (ad, ty, vs)) ∈ D) (hne : ad ≠ "") : ∀ vm h, Hp Z EL D vm h → Exa Z h a ad := fun _ _ H => by
  obtain ⟨c, -, -, -, -, r⟩ := (H.2.2.1 _ hm).1; exact r hne
theorem Hp.insA {D : List Ent} {a : Addr} {b : Bool} {ad : String} {ty : FieldType} {vs : List Value} (hm : (a, b, .inr (ad, ty, vs)) ∈ D) (hne : ad ≠ "") : ∀ vm h, Hp Z EL D vm h → Ins Z h a ad true := fun vm h H => Ins.self (Hp.exaA hm hne vm h H)
theorem W.initO {a : Addr} {idx : Nat} (Wt : Nat) (hd : decode bytes pc = .ok (.invokespecial idx, 3)) (w1 : (Cond.methodLink own idx Lib.objectInit).before a0 Z = true) (w2 : (Cond.instanceMethod Lib.objectInit).before a0 Z = true) (w3 : (Cond.code Lib.objectInit ⟨#[0xb1]⟩ 1 none).before a0 Z = true)
    (hls : ls.size = ml) (hW : (st.map fun v => v.category).sum = Wt) (hr : 1 ≤ R.frames ∧ Wt + 12 ≤ R.locals) (next : W Z EL R own nm bytes ml ret Q D k n (pc + 3) ls st) : W Z EL R own nm bytes ml ret Q D k n pc ls (.ref a :: st) :=
  W.still (fun X hx hby hml hown hZ hH => Jvm.RoadKit.initO X hx hZ hown w1 w2 w3 rfl (g := mkF _ pc ls (.ref a :: st)) rfl (by rw [hml]; exact hls) rfl (hb hby hd) hr.1 (W := Wt) (by show 2 * 0 + _ ≤ _; omega) hr.2) next
def LaidAll (Z : State) (a0 : Array Value) (C : String) : List Fd → Prop
  | [] => True
  | f :: r => (Laid Z a0 C f.1 f.2.1 f.2.2.1 ∧ ∃ ty, parseFieldDescriptor f.2.2.1 = some ty ∧ f.2.2.2 = defaultValue ty) ∧ LaidAll Z a0 C r
theorem LaidAll.mem {C : String} : ∀ {fs : List Fd}, LaidAll Z a0 C fs → ∀ f ∈ fs, Laid Z a0 C f.1 f.2.1 f.2.2.1 ∧ ∃ ty, parseFieldDescriptor f.2.2.1 = some ty ∧ f.2.2.2 = defaultValue ty
  | [], _, _, q => nomatch q
  | f :: r, L, g, q => by
    rcases List.mem_cons.mp q with rfl | q
    · exact L.1
    · exact LaidAll.mem L.2 g q
theorem LaidAll.dist {C : String} : ∀ {fs : List Fd}, LaidAll Z a0 C fs → (fs.map (·.2.1)).Pairwise (fun x y => x ≠ y) → (fs.map (sl Z)).Pairwise (fun x y => x ≠ y)
  | [], _, _ => List.Pairwise.nil
  | f :: r, L, N => by
    obtain ⟨n1, n2⟩ := List.pairwise_cons.mp N
    refine List.pairwise_cons.mpr ⟨fun y hy => ?_, LaidAll.dist L.2 n2⟩
    obtain ⟨g, hg, rfl⟩ := List.mem_map.mp hy
    obtain ⟨l1, t1, q1, -⟩ := L.1
    obtain ⟨l2, t2, q2, -⟩ := LaidAll.mem L.2 g hg
    exact slot_ne l1 l2 (n1 _ (List.mem_map.mpr ⟨g, hg, rfl⟩)) q1 q2
theorem W.new {C : String} {idx nn : Nat} {fs : List Fd} (hd : decode bytes pc = .ok (.new idx, 3)) (w : (Cond.classLink own idx C).before a0 Z = true) (wi : (Cond.instantiable C nn).before a0 Z = true) (wz : (Cond.initialized C).before a0 Z = true)
    (hfs : LaidAll Z a0 C fs) (hnm : (fs.map (·.2.1)).Pairwise (fun x y => x ≠ y)) (hr : k + 1 ≤ R.cells ∧ n + nn ≤ R.slots) (next : ∀ a, W Z EL R own nm bytes ml ret Q ((a, true, .inl (C, fs)) :: D) (k + 1) (n + nn) (pc + 3) ls (.ref a :: st)) : W Z EL R own nm bytes ml ret Q D k n pc ls st := by
  intro p l e s m args below meth c T vm0 k0 locs cells slots A
  obtain ⟨X, hS, hk0, hx, hby, hml, hown, hZ, r1, r2, r3, hN, hH, hc, hl, hE, hNI⟩ := A
  obtain ⟨T', h', X', e', E, A2, D2, -, stp⟩ := newO X hx hZ hown w wi wz rfl (g := mkF m pc ls st) rfl (hb hby hd) (by omega) (by omega)
  have H' : Hp Z EL ((T.heap.size, true, .inl (C, fs)) :: D) vm0 h' := hH.new E ⟨A2, fun f hf => by
    obtain ⟨l1, ty, q1, q2⟩ := hfs.mem f hf
    rw [q2]; exact D2 l1 q1⟩ (hfs.dist hnm)
  obtain ⟨s₂, o, h1, r⟩ := next T.heap.size p l e s m args below meth c T' vm0 k0 locs (cells + 1) (slots + nn) ⟨X', hS, by rw [e']; exact Nat.le_trans hk0 E.1, hx, hby, hml, hown, hZ, r1, r2, r3, hN, by rw [e']; exact H', by omega, by omega, hE, hNI⟩
  exact ⟨s₂, o, stp _ h1, r⟩
theorem fits_default (ty : FieldType) : fits ty (defaultValue ty) = true := by cases ty <;> rfl
theorem W.newarr {aty : ArrayType} {z : Int32} (N : Nat) {ad : String} {ty : FieldType} (hd : decode bytes pc = .ok (.newarray aty, 2)) (hty : newarray.typeOf aty = ty) (w : (Cond.arrayClass ty).before a0 Z = true) (hz : Idx z N) (had : "[" ++ ty.toString = ad) (hb8 : N * 8 ≤ 536870912) (hr : k + 1 ≤ R.cells ∧ n + N ≤ R.slots)
    (next : ∀ a, W Z EL R own nm bytes ml ret Q ((a, true, .inr (ad, ty, List.replicate N (defaultValue ty))) :: D) (k + 1) (n + N) (pc + 2) ls (.ref a :: st)) : W Z EL R own nm bytes ml ret Q D k n pc ls (.int z :: st) := by
  intro p l e s m args below meth c T vm0 k0 locs cells slots A
  subst hty
  obtain ⟨X, hS, hk0, hx, hby, hml, hown, hZ, r1, r2, r3, hN, hH, hc, hl, hE, hNI⟩ := A
  obtain ⟨T', h', cA, X', e', E, A2, E2, stp⟩ := newPE X hx hZ w rfl (g := mkF m pc ls (.int z :: st)) rfl (hb hby hd) rfl hz.1 (cap := N) (by rw [hz.2]; exact Nat.le_refl _) hb8 (by omega) (by omega) had
  have H' : Hp Z EL ((T.heap.size, true, .inr (ad, newarray.typeOf aty, List.replicate N (defaultValue (newarray.typeOf aty)))) :: D) vm0 h' := hH.new E ⟨_, A2, by simp [newA, hz.2], by simp; omega, fun v hv => by rw [(List.mem_replicate.mp hv).2]; exact fits_default _, fun _ => E2⟩ trivial
  obtain ⟨s₂, o, h1, r⟩ := next T.heap.size p l e s m args below meth c T' vm0 k0 locs (cells + 1) (slots + N) ⟨X', hS, by rw [e']; exact Nat.le_trans hk0 E.1, hx, hby, hml, hown, hZ, r1, r2, r3, hN, by rw [e']; exact H', by omega, by omega, hE, hNI⟩
  exact ⟨s₂, o, stp _ h1, r⟩
theorem pw_ne {l : List Nat} (P : l.Pairwise (fun x y => x ≠ y)) {i j : Nat} {x y : Nat} (hij : i ≠ j) (hi : l[i]? = some x) (hj : l[j]? = some y) : x ≠ y := by
  obtain ⟨i1, rfl⟩ := List.getElem?_eq_some_iff.mp hi
  obtain ⟨j1, rfl⟩ := List.getElem?_eq_some_iff.mp hj
  rw [List.pairwise_iff_getElem] at P
  rcases Nat.lt_or_gt_of_ne hij with q | q
  · exact P i j i1 j1 q
  · exact (P j i j1 i1 q).symm
theorem set_map_sl {fs : List Fd} {j : Nat} {f g : Fd} (hj : fs[j]? = some f) (e : sl Z g = sl Z f) : (fs.set j g).map (sl Z) = fs.map (sl Z) := by
  rw [List.map_set, e]
  apply List.ext_getElem?
  intro i
  rw [List.getElem?_set]
  split
  · rename_i q; subst q
    rw [List.getElem?_map, hj]
    have := (List.getElem?_eq_some_iff.mp hj).1
    simp [this]
  · rfl
theorem Sat.put {h h' : Heap} {a : Addr} {C O f d : String} {fs : List Fd} {j : Nat} {old v : Value} (S : Sat Z h a (.inl (C, fs))) (hD : Dist Z (.inl (C, fs))) (hj : fs[j]? = some (O, f, d, old)) (Wr1 : Wr h h' a (Jvm.RoadKit.slotOf Z O f d) v) : Sat Z h' a (.inl (C, fs.set j (O, f, d, v))) := by
  refine ⟨S.1.wr Wr1, fun g hg => ?_⟩
  obtain ⟨i, hi⟩ := List.mem_iff_getElem?.mp hg
  rw [List.getElem?_set] at hi
  split at hi
  · rename_i q; subst q
    split at hi
    · cases hi; exact (S.2 _ (List.mem_of_getElem? hj)).same Wr1
    · cases hi
  · rename_i q
    refine (S.2 g (List.mem_of_getElem? hi)).other Wr1 (Or.inr ?_)
    exact pw_ne hD (Ne.symm q) (x := sl Z g) (y := sl Z (O, f, d, old)) (by rw [List.getElem?_map, hi]; rfl) (by rw [List.getElem?_map, hj]; rfl)
theorem W.putf {a : Addr} {C O f d R0 : String} {fs : List Fd} {old v : Value} {idx kk : Nat} {ty : FieldType} (i j : Nat) (hd : decode bytes pc = .ok (.putfield idx, 3)) (w : (Cond.fieldLink own idx R0 f d).before a0 Z = true) (via : Via Z R0 O f d)
    (hi : D[i]? = some (a, true, .inl (C, fs))) (hj : fs[j]? = some (O, f, d, old)) (L : (Cond.lays C O f d).before a0 Z = true ∨ ((Cond.laysFinal C O f d).before a0 Z = true ∧ own = O ∧ nm = "<init>")) (wi : (Cond.instantiable C kk).before a0 Z = true)
    (hty : parseFieldDescriptor d = some ty) (hn : narrow ty v = v) (hf : fits ty v = true) (hD : D.set i (a, true, .inl (C, fs.set j (O, f, d, v))) = D')
    (next : W Z EL R own nm bytes ml ret Q D' k n (pc + 3) ls st) : W Z EL R own nm bytes ml ret Q D k n pc ls (v :: .ref a :: st) := by
  intro p l e s m args below meth c T vm0 k0 locs cells slots A
  obtain ⟨X, hS, hk0, hx, hby, hml, hown, hZ, r1, r2, r3, hN, hH, hc, hl, hE, hNI⟩ := A
  subst hD
  obtain ⟨S, g⟩ := hH.2.2.1 _ (List.mem_of_getElem? hi)
  obtain ⟨T', h', X', e', W1, stp⟩ := putF (host := "") X hx hZ hown (Or.inl w) via rfl (S.2 _ (List.mem_of_getElem? hj)) S.1 (L.imp id fun q => ⟨q.1, q.2.1, r3.trans q.2.2⟩) wi hty hn hf (g := mkF m pc ls (v :: .ref a :: st)) rfl rfl (hb hby hd)
  obtain ⟨g1, g2, g3⟩ := g rfl
  have H' := hH.keepSet (d' := .inl (C, fs.set j (O, f, d, v))) hi (Keep.of_wr W1) (Sat.put S g3 hj W1) (by show List.Pairwise _ _; rw [set_map_sl (Z := Z) (g := (O, f, d, v)) hj rfl]; exact g3)
  obtain ⟨s₂, o, q1, r⟩ := next p l e s m args below meth c T' vm0 k0 _ cells slots ⟨X', hS, by rw [e', W1.size]; exact hk0, hx, hby, hml, hown, hZ, r1, r2, r3, Fr.snoc X' hN g1, by rw [e']; exact H', hc, hl, hE, hNI⟩
  exact ⟨s₂, o, stp _ q1, r⟩
theorem Sat.store {h h' : Heap} {a : Addr} {ad : String} {ty : FieldType} {vs : List Value} {i : Nat} {v : Value} (S : Sat Z h a (.inr (ad, ty, vs))) (hv : fits ty v = true) (W1 : Wr h h' a i v) : Sat Z h' a (.inr (ad, ty, vs.set i v)) := by
  obtain ⟨c, A, r1, r2, r3, r4⟩ := S
  refine ⟨_, A.same W1, ?_, by simpa using r2, fun x hx => ?_, fun q => (r4 q).wr W1⟩
  · simp [Cell.setSlot, r1]
  · rcases List.mem_or_eq_of_mem_set hx with hx | rfl
    · exact r3 x hx
    · exact hv
theorem W.stA {a : Addr} {ad : String} {ty : FieldType} {vs : List Value} {i j : Nat} {v : Value} {st' : List Value} {pc' : Nat}
    (H : ∀ {p : Program} {l : Launch} {e : Env} {s : State} {m : MethodId} {args : Array Value} {below : List Frame} {meth : Method} {c : Code} {T : State} {locs : List Loc} {cells slots : Nat} {cl : Cell}, Stand p l e R s m args below meth c T locs cells slots → p.tables.exec = Jvm.exec → c.code = bytes → Z.Warmed39 s.vm → Arr Z T.heap a cl ty → cl.slots = vs.toArray →
      ∃ T' h', Stand p l e R s m args below meth c T' (locs ++ [⟨a, j⟩]) cells slots ∧ T'.heap = h' ∧ Wr T.heap h' a j v ∧ ∀ target, Steps p.tables e below (T'.setTop (mkF m pc' ls st')) target → Steps p.tables e below (T.setTop (mkF m pc ls st)) target)
    (hi : D[i]? = some (a, true, .inr (ad, ty, vs))) (hf : fits ty v = true) (hD : D.set i (a, true, .inr (ad, ty, vs.set j v)) = D')
    (next : W Z EL R own nm bytes ml ret Q D' k n pc' ls st') : W Z EL R own nm bytes ml ret Q D k n pc ls st := by
  intro p l e s m args below meth c T vm0 k0 locs cells slots A
  obtain ⟨X, hS, hk0, hx, hby, hml, hown, hZ, r1, r2, r3, hN, hH, hc, hl, hE, hNI⟩ := A
  subst hD
  obtain ⟨S, g⟩ := hH.2.2.1 _ (List.mem_of_getElem? hi)
  obtain ⟨cl, A, q1, -⟩ := id S
  obtain ⟨T', h', X', e', W1, stp⟩ := H X hx hby hZ A q1
  obtain ⟨g1, g2, g3⟩ := g rfl
  have H' := hH.keepSet hi (Keep.of_wr W1) (Sat.store S hf W1) trivial
  obtain ⟨s₂, o, q1, r⟩ := next p l e s m args below meth c T' vm0 k0 _ cells slots ⟨X', hS, by rw [e', W1.size]; exact hk0, hx, hby, hml, hown, hZ, r1, r2, r3, Fr.snoc X' hN g1, by rw [e']; exact H', hc, hl, hE, hNI⟩
  exact ⟨s₂, o, stp _ q1, r⟩
theorem W.castore {a : Addr} {ad : String} {vs : List Value} {z x x' : Int32} (i j : Nat) (hd : decode bytes pc = .ok (.castore, 1)) (hi : D[i]? = some (a, true, .inr (ad, .char, vs))) (hz : Idx z j) (hj : j < vs.length) (hx' : nar .char x = x')
    (hD : D.set i (a, true, .inr (ad, .char, vs.set j (.int x'))) = D') (next : W Z EL R own nm bytes ml ret Q D' k n (pc + 1) ls st) : W Z EL R own nm bytes ml ret Q D k n pc ls (.int x :: .int z :: .ref a :: st) :=
  W.stA (i := i) (j := j) (fun X hx hby hZ A q => by
    have r := stC X hx hZ rfl A (j := z) (x := x) (idx_in' q hz hj) (g := mkF _ pc ls (.int x :: .int z :: .ref a :: st)) rfl rfl (hb hby hd)
    rw [hz.2, hx'] at r; exact r) hi (by rw [← hx']; exact fits_nar_char x) hD next
theorem W.bastore {a : Addr} {ad : String} {vs : List Value} {z x x' : Int32} (i j : Nat) (hd : decode bytes pc = .ok (.bastore, 1)) (hi : D[i]? = some (a, true, .inr (ad, .byte, vs))) (hz : Idx z j) (hj : j < vs.length) (hx' : nar .byte x = x')
    (hD : D.set i (a, true, .inr (ad, .byte, vs.set j (.int x'))) = D') (next : W Z EL R own nm bytes ml ret Q D' k n (pc + 1) ls st) : W Z EL R own nm bytes ml ret Q D k n pc ls (.int x :: .int z :: .ref a :: st) :=
  W.stA (i := i) (j := j) (fun X hx hby hZ A q => by
    have r := stB X hx hZ rfl A (j := z) (x := x) (idx_in' q hz hj) (g := mkF _ pc ls (.int x :: .int z :: .ref a :: st)) rfl rfl (hb hby hd)
    rw [hz.2, hx'] at r; exact r) hi (by rw [← hx']; exact fits_nar_byte x) hD next
abbrev dStr (c : Int32) (v : Value) : Desc := .inl ("java/lang/String", [("java/lang/String", "value", "[B", v), ("java/lang/String", "coder", "B", .int c)])
theorem W.ldcT {idx : Nat} {text : String} (N : Nat) {vs : List Value} (hni : EL.1 = false) (hd : decode bytes pc = .ok (.ldc idx, 2)) (w : (Cond.stringLink own idx text).before a0 Z = true) (wS : ∀ a ∈ Bundle.stringAtoms, a.before a0 Z = true) (hmem : (own, idx) ∈ EL.2)
    (ht : (∀ c ∈ text.toList, c.toNat < 256) ∧ text.toList.map (fun c => Value.int (Jvm.Lit.byteI c.toNat.toUInt16)) = vs) (hn : 4 * text.toList.length ≤ N) (hbig : N ≤ 536870912) (hr : k + 2 ≤ R.cells ∧ n + (N + 4) ≤ R.slots)
    (next : ∀ a b, W Z EL R own nm bytes ml ret Q ((a, false, dStr 0 (.ref b)) :: (b, false, .inr ("", .byte, vs)) :: D) (k + 2) (n + (N + 4)) (pc + 2) ls (.ref a :: st)) : W Z EL R own nm bytes ml ret Q D k n pc ls st := by
  intro p l e s m args below meth c T vm0 k0 locs cells slots A
  obtain ⟨X, hS, hk0, hx, hby, hml, hown, hZ, r1, r2, r3, hN, hH, hc, hl, ⟨⟨b0, hE⟩, hNL⟩, hNI⟩ := A
  have hE' : EW Z a0 EL.2 := fun q hq => by
    obtain ⟨t, ht, r⟩ := hE q hq
    exact ⟨t, by have := mvS (s := Z) (args := a0) (State.Warmed39.refl Z) ht; simpa using this, r⟩
  have hlen : vs.length = text.toList.length := by rw [← ht.2]; simp
  have hv31 : vs.length < 2147483648 := by omega
  have iz := Idx.of_nat hv31
  obtain ⟨a, T', h', k1, b, kk, X', e', E, hS', hk1, hZ', hown', F1, F2, F3, F4, g1, g2, hC, -, hne, stp⟩ := ldcCH X hx hZ hown w wS rfl hS hk0 hE' hmem hH.2.1 (z := Nat.toInt32 vs.length) ht iz.1 iz.2 (g := mkF m pc ls st) rfl (hb hby hd) hn hbig (by omega) (by omega)
  have hH1 := hH.grown E hC
  have hH2 : Hp Z EL ((b, false, .inr ("", .byte, vs)) :: D) T'.vm h' := hH1.read (Sat.of_arv F4 iz.2 fun q => absurd rfl q) fun x q _ => (hne x q).2
  have hH3 : Hp Z EL ((a, false, dStr 0 (.ref b)) :: (b, false, .inr ("", .byte, vs)) :: D) T'.vm h' := hH2.read ⟨F1, fun f hf => by
    rcases List.mem_cons.mp hf with rfl | hf
    · exact F3
    · cases List.mem_singleton.mp hf; exact F2⟩ fun x q _ => (hne x q).1
  obtain ⟨s₂, o, q1, r⟩ := next a b p l e s m args below meth c T' T'.vm k1 locs (cells + 2) (slots + (N + 4)) ⟨X', hS', by rw [e']; exact hk1, hx, hby, hml, hown', hZ', r1, r2, r3, hN, by rw [e']; exact hH3, by omega, by omega, ⟨⟨b0, hE⟩, hNL⟩, fun q => by rw [hni] at q; cases q⟩
  exact ⟨s₂, o, stp _ q1, r⟩
theorem W.out {v : Option Value} (hk : k ≤ R.cells ∧ n ≤ R.slots) (hv : ret = none → v = none) (q : Q v D)
    (H : ∀ {p : Program} {l : Launch} {e : Env} {s : State} {m : MethodId} {args : Array Value} {below : List Frame} {meth : Method} {c : Code} {T : State} {locs : List Loc} {cells slots : Nat} {fs : List Frame}, Stand p l e R s m args below meth c T locs cells slots → p.tables.exec = Jvm.exec → c.code = bytes → meth.sig.returnType = ret →
      (∀ (f : JFrame) (acts : List Action), f.method = m → f.locked = none → f.entered = [] → (doReturn e (T.setTop f) acts v).1 = T.setFrames fs) → Steps p.tables e below (T.setTop (mkF m pc ls st)) (T.setFrames fs)) : W Z EL R own nm bytes ml ret Q D k n pc ls st := by
  intro p l e s m args below meth c T vm0 k0 locs cells slots A
  obtain ⟨X, hS, hk0, hx, hby, hml, hown, hZ, r1, r2, r3, hN, hH, hc, hl, ⟨⟨b0, hE⟩, hNL⟩, hNI⟩ := A
  obtain ⟨fs, h1, h2, h3, ⟨h4, h5, h6, h7⟩⟩ := X.leaveW hS hk0 (v := v) (fun z => hv (r1 ▸ z)) r2
  refine ⟨_, _, H X hx hby r1 h1, h2, h3, v, locs, rfl, hN, ⟨D, (show Hp Z EL D T.vm T.heap from hH.toVm (CHv.at X hZ hE hH.2.1)), q⟩, ⟨h4, h5, h6, h7.mono (by omega) (by omega)⟩, fun q => ?_⟩
  have := X.warmed
  rw [hNI q] at this; exact this
theorem W.ireturn {x : Int32} {t : FieldType} (hd : decode bytes pc = .ok (.ireturn, 1)) (hret : ret = some t) (ht : t = .int ∨ t = .boolean ∨ t = .byte ∨ t = .char ∨ t = .short) (hn : narrow t (.int x) = .int x) (hk : k ≤ R.cells ∧ n ≤ R.slots) (q : Q (some (.int x)) D) : W Z EL R own nm bytes ml ret Q D k n pc ls (.int x :: st) :=
  W.out hk (fun z => by rw [hret] at z; cases z) q (fun X hx hby hr hl => retOut X hx (hr.trans hret) hn (Or.inl ⟨rfl, ht, x, rfl⟩) (hb hby hd) hl)
theorem W.areturn {v : Value} {t : FieldType} (hd : decode bytes pc = .ok (.areturn, 1)) (hret : ret = some t) (ht : t.isReference = true) (hv : v.isRef = true) (hk : k ≤ R.cells ∧ n ≤ R.slots) (q : Q (some v) D) : W Z EL R own nm bytes ml ret Q D k n pc ls (v :: st) :=
  W.out hk (fun z => by rw [hret] at z; cases z) q (fun X hx hby hr hl => retOut X hx (hr.trans hret) (by cases t <;> first | rfl | cases ht) (Or.inr (Or.inr (Or.inr (Or.inr ⟨rfl, ht, hv⟩)))) (hb hby hd) hl)
theorem W.return_ (hd : decode bytes pc = .ok (.return_, 1)) (hret : ret = none) (hk : k ≤ R.cells ∧ n ≤ R.slots) (q : Q none D) : W Z EL R own nm bytes ml ret Q D k n pc ls [] :=
  W.out hk (fun _ => rfl) q (fun X hx hby hr hl => X.returnOut hx (hr.trans hret) (hb hby hd) hl)
end Walk
end Jvm.Wk
namespace Jvm.Wk
open Jvm Jvm.ClassFile Sem Op Lib Bundle Jvm.Free Jvm.Stand Jvm.LawKit Jvm.RoadKit
theorem same_self {Z : State} {a0 : Array Value} {y y2 : MethodName} {C : String} (hc : y2.cls = y.cls) (hy : y.cls ≠ "java/lang/invoke/MethodHandle" ∧ y.cls ≠ "java/lang/invoke/VarHandle") (wi : (Cond.instanceMethod y).before a0 Z = true) (wi2 : (Cond.instanceMethod y2).before a0 Z = true) (wse : (Cond.selects C y2 y2).before a0 Z = true) : (Cond.sameMethod y.cls y.cls y.name y.desc).before a0 Z = true := by
  obtain ⟨mk, meth, hn, -⟩ := Cond.instanceMethod_spec wi
  obtain ⟨mk2, meth2, hn2, -⟩ := Cond.instanceMethod_spec wi2
  have hf := State.methodFound?_of_named hn hy
  have h1 := findClass_of_methodNamed hn
  have h2 := findClass_of_methodNamed hn2
  obtain ⟨kr, hkr, hni⟩ := notFace_of_selects (args := a0) wse mk2 hn2
  rw [hc, h1] at h2
  have h3 := Option.some.inj h2
  rw [← h3] at hkr
  simp [Cond.before, Cond.holds, Cond.value, h1, hf, hn, hkr, hni]
theorem notFace_by {s : State} {args : Array Value} {y y2 : MethodName} {C : String} (hc : y2.cls = y.cls) (wi2 : (Cond.instanceMethod y2).before args s = true) (wse : (Cond.selects C y2 y2).before args s = true) : NotFace s y := fun r0 h0 => by
  obtain ⟨mk2, meth2, hn2, -⟩ := Cond.instanceMethod_spec wi2
  have h2 := findClass_of_methodNamed hn2
  rw [hc, findClass_of_methodNamed h0] at h2
  have h3 := Option.some.inj h2
  rw [h3]; exact notFace_of_selects wse mk2 hn2
section Calls
variable {Z : State} {EL : Bool × List (String × Nat)} {R : Room} {own nm : String} {bytes : ByteArray} {ml : Nat} {ret : Option FieldType} {Q : Option Value → List Ent → Prop} {D D' : List Ent} {k n pc : Nat} {ls ls' : Array Slot} {st : List Value} {a0 : Array Value}
variable {y : MethodName} {cb : ByteArray} {cm : Nat} {cr : Option FieldType} {rm : Room} {as : List Value} {Q' : Option Value → List Ent → Prop} {idx : Nat}
abbrev CPre (Z : State) (EL : Bool × List (String × Nat)) (R rm : Room) (D : List Ent) (vm0 : Vm) (as : List Value) : Pt → Array Value → Prop := fun A a => a = as.toArray ∧ Hp Z EL D vm0 A.U.heap ∧ A.cells + rm.cells ≤ R.cells ∧ A.slots + rm.slots ≤ R.slots
abbrev CPost (Z : State) (EL : Bool × List (String × Nat)) (rm : Room) (Q' : Option Value → List Ent → Prop) : Pt → Array Value → Option Value → Pt → Prop :=
  fun A _ v B => ∃ L D', Fr Z.heap.size L ∧ Hp Z EL D' B.U.vm B.U.heap ∧ Q' v D' ∧ B.locs = A.locs ++ L ∧ B.cells = A.cells + rm.cells ∧ B.slots = A.slots + rm.slots ∧ (EL.1 = true → A.U.WarmedH B.U.vm)
theorem conBack {p : Program} {l : Launch} {e : Env} {s : State} {args : Array Value} {below : List Frame} {vm0 : Vm} {len Wt : Nat} (hC : Con Z EL y cb cm cr rm as D Q') (hZ : Z.Warmed39 vm0) (wc : (Cond.code y cb cm cr).before a0 Z = true) (wz : (Cond.initialized y.cls).before a0 Z = true) (hE : ELok Z EL)
    (hf : rm.frames + 1 ≤ R.frames) (hl : Wt + (cm + 11) + rm.locals ≤ R.locals) : BackS l R p e below (s.setVm vm0) args y len Wt (CPre Z EL R rm D vm0 as) (CPost Z EL rm Q') := by
  obtain ⟨⟨b0, hE0⟩, hNL⟩ := id hE
  exact BackS.of_freeW (bytes := cb) (maxL := cm) (ret := cr) (E := fun _ first o t L k n => k = rm.cells ∧ n = rm.slots ∧ Fr Z.heap.size L ∧ (EL.1 = true → first.WarmedH t.vm) ∧ ∃ v, o = .returned v ∧ ∃ D', Hp Z EL D' t.vm t.heap ∧ Q' v D') (hC hE l []) hf hl
    (fun m meth c A a Y hp => have hU : Z.Warmed39 A.U.vm := wtrans (s := s.setVm vm0) hZ Y.warmed
      ⟨by show (Cond.and _ .tt).before a A.U = true; rw [Cond.before_and, mv hU wc]; rfl, mv hU wc, mv hU wz, hp.2.2.1, hp.2.2.2⟩)
    (fun m meth c A a g mk Y hp => ⟨hp.1, wtrans (s := s.setVm vm0) hZ Y.warmed, (show Hp Z EL D A.U.vm A.U.heap from hp.2.1.toVm (CHv.at Y hZ hE0 hp.2.1.2.1))⟩) (fun _ _ _ _ _ _ _ _ _ => trivial)
    (fun _ _ _ _ ⟨v, L, h1, h2, h3, h4, h5⟩ => ⟨L, _, _, h4, rfl, rfl, h2, h5, v, h1, h3⟩)
    (fun m meth c A a g mk v t L k n Y hp _ _ ⟨e1, e2, e3, e7, v', e4, D', e5, e6⟩ => by
      cases e4; subst e1 e2
      exact ⟨L, D', e3, e5, e6, rfl, rfl, rfl, e7⟩)
theorem W.afterCall {p : Program} {l : Launch} {e : Env} {s : State} {m : MethodId} {args : Array Value} {below : List Frame} {meth : Method} {c : Code} {T : State} {vm0 : Vm} {k0 : Nat} {locs : List Loc} {cells slots : Nat} {len : Nat} {rest : List Value} {aa : Array Value}
    (A : Here Z EL R own nm bytes ml ret D k n p l e s m args below meth c T vm0 k0 locs cells slots)
    (hB : ∃ (v : Option Value) (vm₁ : Vm) (B : Pt), (s.setVm vm0).WarmedH vm₁ ∧ Stand p l e R ((s.setVm vm0).setVm B.U.vm) m args below meth c B.U B.locs B.cells B.slots ∧ (s.setVm vm0).Since B.U.vm B.U.heap.size ∧ T.heap.size ≤ B.U.heap.size ∧ CPost Z EL rm Q' ⟨T.setVm vm₁, locs, cells, slots⟩ aa v B ∧
      Steps p.tables e below (T.setTop (mkF m pc ls st)) (B.U.setTop { mkF m pc ls st with pc := pc + len, stack := v.toList ++ rest }))
    (next : ∀ v D', Q' v D' → W Z EL R own nm bytes ml ret Q D' (k + rm.cells) (n + rm.slots) (pc + len) ls (v.toList ++ rest)) :
    ∃ s₂ o, Steps p.tables e below (T.setTop (mkF m pc ls st)) s₂ ∧ s₂.status = .running ∧ Ended s₂ below o ∧ Res Z EL Q R s o s₂ := by
  obtain ⟨X, hS, hk0, hx, hby, hml, hown, hZ, r1, r2, r3, hN, hH, hc, hl, hE, hNI⟩ := A
  obtain ⟨v, vm₁, ⟨U, L1, c1, n1⟩, hW1, X', hS', hg, ⟨L, D', hL, hH', hq, e1, e2, e3, e4⟩, stp⟩ := hB
  dsimp only [Pt.U, Pt.locs, Pt.cells, Pt.slots] at X' hS' hg hH' e1 e2 e3 e4 stp
  subst e1 e2 e3
  cases hb : EL.1 with
  | false =>
    obtain ⟨s₂, o, q1, r⟩ := next v D' hq p l e s m args below meth c U U.vm U.heap.size (locs ++ L) (cells + rm.cells) (slots + rm.slots)
      ⟨X', hS.trans hS' (Nat.le_trans hk0 hg), Nat.le_refl _, hx, hby, hml, (hS'.1.alike.findClass _ _).trans hown, State.Warmed39.trans (t := s.setVm vm0) hZ hS'.1, r1, r2, r3, Fr.app hN hL, hH', by omega, by omega, hE, fun q => by rw [hb] at q; cases q⟩
    exact ⟨s₂, o, stp.trans q1, r⟩
  | true =>
    have hWU : (s.setVm vm0).WarmedH U.vm := State.WarmedH.trans hW1 (e4 hb)
    have X2 : Stand p l e R (s.setVm vm0) m args below meth c U (locs ++ L) (cells + rm.cells) (slots + rm.slots) :=
      ⟨X.admits, X.cas, X.clock, X.frames, X.room, X.hears, X.method, X.code, X'.here, X'.tail, hWU, X'.limits, X'.bytes, X'.same.setVm vm0⟩
    have hn0 : EL.2 = [] := hE.2 hb
    have hH2 : Hp Z EL D' vm0 U.heap := ⟨hH'.1, by rw [hn0]; exact fun p hp => (by cases hp), fun x hx => ⟨(hH'.2.2.1 x hx).1, fun w => ⟨((hH'.2.2.1 x hx).2 w).1, (by rw [hn0]; rintro ⟨p, hp, -⟩; cases hp), ((hH'.2.2.1 x hx).2 w).2.2⟩⟩, hH'.2.2.2⟩
    obtain ⟨s₂, o, q1, r⟩ := next v D' hq p l e s m args below meth c U vm0 k0 (locs ++ L) (cells + rm.cells) (slots + rm.slots)
      ⟨X2, hS, Nat.le_trans hk0 hg, hx, hby, hml, hown, hZ, r1, r2, r3, Fr.app hN hL, hH2, by omega, by omega, hE, hNI⟩
    exact ⟨s₂, o, stp.trans q1, r⟩
abbrev Rooms (R rm : Room) (Wt cm k n : Nat) : Prop := rm.frames + 1 ≤ R.frames ∧ Wt + (cm + 11) + rm.locals ≤ R.locals ∧ k + rm.cells ≤ R.cells ∧ n + rm.slots ≤ R.slots
abbrev okCls (y : MethodName) : Prop := y.cls ≠ "java/lang/invoke/MethodHandle" ∧ y.cls ≠ "java/lang/invoke/VarHandle"
theorem W.callS {ps : List FieldType} {r : Option FieldType} (Wt : Nat) (rest : List Value) (hd : decode bytes pc = .ok (.invokestatic idx, 3)) (wl : (Cond.methodLink own idx y).before a0 Z = true) (ws : (Cond.static y).before a0 Z = true) (wz : (Cond.initialized y.cls).before a0 Z = true) (wc : (Cond.code y cb cm cr).before a0 Z = true)
    (hC : Con Z EL y cb cm cr rm as D Q') (hy : okCls y) (hps : parseMethodDescriptor y.desc = some ⟨ps, r⟩) (hlen : as.length = ps.length) (hst : as.reverse ++ rest = st) (hls : ls.size = ml) (hW : (rest.map fun v => v.category).sum = Wt) (hr : Rooms R rm Wt cm k n)
    (next : ∀ v D', Q' v D' → W Z EL R own nm bytes ml ret Q D' (k + rm.cells) (n + rm.slots) (pc + 3) ls (v.toList ++ rest)) : W Z EL R own nm bytes ml ret Q D k n pc ls st := by
  intro p l e s m args below meth c T vm0 k0 locs cells slots A
  obtain ⟨X, hS, hk0, hx, hby, hml, hown, hZ, r1, r2, r3, hN, hH, hc, hl, hE, hNI⟩ := id A
  subst hst
  exact W.afterCall A (callSS X hx hown (mvT hZ wl) (mvT hZ ws) (mvT hZ wz) (mvT hZ wc) hy (conBack (Wt := Wt) (len := 3) hC hZ wc wz hE hr.1 hr.2.1) (g := mkF m pc ls (as.reverse ++ rest)) rfl (by rw [hml]; exact hls) (lenOf hps hlen) rfl (by show 2 * 0 + _ ≤ _; omega) (hb hby hd) (fun _ _ => ⟨rfl, hH, by show cells + _ ≤ _; have := hr.2.2.1; omega, by show slots + _ ≤ _; have := hr.2.2.2; omega⟩)) next
theorem W.callI {ps : List FieldType} {r : Option FieldType} {a : Addr} (Wt : Nat) (rest : List Value) (hd : decode bytes pc = .ok (.invokespecial idx, 3)) (hy1 : y.name = "<init>") (wl : (Cond.methodLink own idx y).before a0 Z = true) (wi : (Cond.instanceMethod y).before a0 Z = true) (wz : (Cond.initialized y.cls).before a0 Z = true) (wc : (Cond.code y cb cm none).before a0 Z = true)
    (hC : Con Z EL y cb cm none rm (.ref a :: as) D Q') (hy : okCls y) (hps : parseMethodDescriptor y.desc = some ⟨ps, r⟩) (hlen : as.length = ps.length) (hst : as.reverse ++ .ref a :: rest = st) (hls : ls.size = ml) (hW : (rest.map fun v => v.category).sum = Wt) (hr : Rooms R rm Wt cm k n)
    (next : ∀ v D', Q' v D' → W Z EL R own nm bytes ml ret Q D' (k + rm.cells) (n + rm.slots) (pc + 3) ls (v.toList ++ rest)) : W Z EL R own nm bytes ml ret Q D k n pc ls st := by
  intro p l e s m args below meth c T vm0 k0 locs cells slots A
  obtain ⟨X, hS, hk0, hx, hby, hml, hown, hZ, r1, r2, r3, hN, hH, hc, hl, hE, hNI⟩ := id A
  subst hst
  exact W.afterCall A (X.specialBackS hx hy1 hown (mvT hZ wl) (mvT hZ wi) (mvT hZ wc) hy (conBack (Wt := Wt) (len := 3) hC hZ wc wz hE hr.1 hr.2.1) (g := mkF m pc ls (as.reverse ++ .ref a :: rest)) rfl (by rw [hml]; exact hls) (Steps.refl _) (lenOf hps hlen) rfl (by show 2 * 0 + _ ≤ _; omega) (hb hby hd) (fun _ _ => ⟨rfl, hH, by show cells + _ ≤ _; have := hr.2.2.1; omega, by show slots + _ ≤ _; have := hr.2.2.2; omega⟩)) next
theorem W.callV {z : MethodName} {ps : List FieldType} {r : Option FieldType} {a : Addr} {C C' : String} (Wt : Nat) (rest : List Value) (hd : decode bytes pc = .ok (.invokevirtual idx, 3)) (wl : (Cond.methodLink own idx y).before a0 Z = true) (wdl : (Cond.declares y).before a0 Z = true) (wsy : (Cond.selects C' y y).before a0 Z = true) (wse : (Cond.selects C y z).before a0 Z = true) (wi : (Cond.instanceMethod z).before a0 Z = true) (wz : (Cond.initialized z.cls).before a0 Z = true) (wc : (Cond.code z cb cm cr).before a0 Z = true)
    (hI : ∀ vm h, Hp Z EL D vm h → Exa Z h a C) (hC : Con Z EL z cb cm cr rm (.ref a :: as) D Q') (hy : okCls y) (hps : parseMethodDescriptor y.desc = some ⟨ps, r⟩) (hlen : as.length = ps.length) (hst : as.reverse ++ .ref a :: rest = st) (hls : ls.size = ml) (hW : (rest.map fun v => v.category).sum = Wt) (hr : Rooms R rm Wt cm k n)
    (next : ∀ v D', Q' v D' → W Z EL R own nm bytes ml ret Q D' (k + rm.cells) (n + rm.slots) (pc + 3) ls (v.toList ++ rest)) : W Z EL R own nm bytes ml ret Q D k n pc ls st := by
  intro p l e s m args below meth c T vm0 k0 locs cells slots A
  obtain ⟨X, hS, hk0, hx, hby, hml, hown, hZ, r1, r2, r3, hN, hH, hc, hl, hE, hNI⟩ := id A
  subst hst
  obtain ⟨cq, kq, qa, qb, qc⟩ := isOf (s := s.setVm vm0) hZ rfl (hI _ _ hH)
  exact W.afterCall A (X.virtualBackS hx hown (mvT hZ wl) (mvT hZ wdl) (notFace_of_selects (args := #[]) (mvT hZ wsy)) (mvT hZ wse) (mvT hZ wi) hy (conBack (Wt := Wt) (len := 3) hC hZ wc wz hE hr.1 hr.2.1) qa qc (g := mkF m pc ls (as.reverse ++ .ref a :: rest)) rfl (by rw [hml]; exact hls) (Steps.refl _) (lenOf hps hlen) rfl (by show 2 * 0 + _ ≤ _; omega) (hb hby hd) (fun _ _ => ⟨rfl, hH, by show cells + _ ≤ _; have := hr.2.2.1; omega, by show slots + _ ≤ _; have := hr.2.2.2; omega⟩)) next
theorem W.callVN {z y2 : MethodName} {ps : List FieldType} {r : Option FieldType} {a : Addr} {C C' : String} (Wt : Nat) (rest : List Value) (hd : decode bytes pc = .ok (.invokevirtual idx, 3)) (wl : (Cond.methodLink own idx y).before a0 Z = true) (wdl : (Cond.declares y).before a0 Z = true) (hc2 : y2.cls = y.cls) (wi2 : (Cond.instanceMethod y2).before a0 Z = true) (wsy : (Cond.selects C' y2 y2).before a0 Z = true) (wse : (Cond.selects C y z).before a0 Z = true) (wi : (Cond.instanceMethod z).before a0 Z = true) (wz : (Cond.initialized z.cls).before a0 Z = true) (wc : (Cond.code z cb cm cr).before a0 Z = true)
    (hI : ∀ vm h, Hp Z EL D vm h → Exa Z h a C) (hC : Con Z EL z cb cm cr rm (.ref a :: as) D Q') (hy : okCls y) (hps : parseMethodDescriptor y.desc = some ⟨ps, r⟩) (hlen : as.length = ps.length) (hst : as.reverse ++ .ref a :: rest = st) (hls : ls.size = ml) (hW : (rest.map fun v => v.category).sum = Wt) (hr : Rooms R rm Wt cm k n)
    (next : ∀ v D', Q' v D' → W Z EL R own nm bytes ml ret Q D' (k + rm.cells) (n + rm.slots) (pc + 3) ls (v.toList ++ rest)) : W Z EL R own nm bytes ml ret Q D k n pc ls st := by
  intro p l e s m args below meth c T vm0 k0 locs cells slots A
  obtain ⟨X, hS, hk0, hx, hby, hml, hown, hZ, r1, r2, r3, hN, hH, hc, hl, hE, hNI⟩ := id A
  subst hst
  obtain ⟨cq, kq, qa, qb, qc⟩ := isOf (s := s.setVm vm0) hZ rfl (hI _ _ hH)
  exact W.afterCall A (X.virtualBackS hx hown (mvT hZ wl) (mvT hZ wdl) (notFace_by (args := #[]) hc2 (mvT hZ wi2) (mvT hZ wsy)) (mvT hZ wse) (mvT hZ wi) hy (conBack (Wt := Wt) (len := 3) hC hZ wc wz hE hr.1 hr.2.1) qa qc (g := mkF m pc ls (as.reverse ++ .ref a :: rest)) rfl (by rw [hml]; exact hls) (Steps.refl _) (lenOf hps hlen) rfl (by show 2 * 0 + _ ≤ _; omega) (hb hby hd) (fun _ _ => ⟨rfl, hH, by show cells + _ ≤ _; have := hr.2.2.1; omega, by show slots + _ ≤ _; have := hr.2.2.2; omega⟩)) next
theorem W.callUp {ps : List FieldType} {r : Option FieldType} {a : Addr} {K : String} (Wt : Nat) (rest : List Value) (hd : decode bytes pc = .ok (.invokespecial idx, 3)) (wl : (Cond.methodLink own idx y).before a0 Z = true) (wsm : (Cond.sameMethod y.cls y.cls y.name y.desc).before a0 Z = true) (wi : (Cond.instanceMethod y).before a0 Z = true) (wsu : (Cond.superclass own y.cls).before a0 Z = true) (hy1 : y.name ≠ "<init>") (wz : (Cond.initialized y.cls).before a0 Z = true) (wc : (Cond.code y cb cm cr).before a0 Z = true)
    (hI : ∀ vm h, Hp Z EL D vm h → Ins Z h a K true) (hC : Con Z EL y cb cm cr rm (.ref a :: as) D Q') (hps : parseMethodDescriptor y.desc = some ⟨ps, r⟩) (hlen : as.length = ps.length) (hst : as.reverse ++ .ref a :: rest = st) (hls : ls.size = ml) (hW : (rest.map fun v => v.category).sum = Wt) (hr : Rooms R rm Wt cm k n)
    (next : ∀ v D', Q' v D' → W Z EL R own nm bytes ml ret Q D' (k + rm.cells) (n + rm.slots) (pc + 3) ls (v.toList ++ rest)) : W Z EL R own nm bytes ml ret Q D k n pc ls st := by
  intro p l e s m args below meth c T vm0 k0 locs cells slots A
  obtain ⟨X, hS, hk0, hx, hby, hml, hown, hZ, r1, r2, r3, hN, hH, hc, hl, hE, hNI⟩ := id A
  subst hst
  exact W.afterCall A (superBackS (s := s.setVm vm0) X hx hZ hown wl wsm wi wsu hy1 (conBack (Wt := Wt) (len := 3) hC hZ wc wz hE hr.1 hr.2.1) rfl (hI _ _ hH) (g := mkF m pc ls (as.reverse ++ .ref a :: rest)) rfl (by rw [hml]; exact hls) wc (lenOf hps hlen) rfl (by show 2 * 0 + _ ≤ _; omega) (hb hby hd) (fun _ _ => ⟨rfl, hH, by show cells + _ ≤ _; have := hr.2.2.1; omega, by show slots + _ ≤ _; have := hr.2.2.2; omega⟩)) next
theorem W.callP {ps : List FieldType} {r : Option FieldType} {a : Addr} {K C : String} (Wt : Nat) (rest : List Value) (hd : decode bytes pc = .ok (.invokevirtual idx, 3)) (wl : (Cond.methodLink own idx y).before a0 Z = true) (wi : (Cond.instanceMethod y).before a0 Z = true) (wse : (Cond.selects C y y).before a0 Z = true) (wp : (Cond.privateMethod y).before a0 Z = true) (wz : (Cond.initialized y.cls).before a0 Z = true) (wc : (Cond.code y cb cm cr).before a0 Z = true)
    (hI : ∀ vm h, Hp Z EL D vm h → Exa Z h a K) (hC : Con Z EL y cb cm cr rm (.ref a :: as) D Q') (hy : okCls y) (hps : parseMethodDescriptor y.desc = some ⟨ps, r⟩) (hlen : as.length = ps.length) (hst : as.reverse ++ .ref a :: rest = st) (hls : ls.size = ml) (hW : (rest.map fun v => v.category).sum = Wt) (hr : Rooms R rm Wt cm k n)
    (next : ∀ v D', Q' v D' → W Z EL R own nm bytes ml ret Q D' (k + rm.cells) (n + rm.slots) (pc + 3) ls (v.toList ++ rest)) : W Z EL R own nm bytes ml ret Q D k n pc ls st := by
  intro p l e s m args below meth c T vm0 k0 locs cells slots A
  obtain ⟨X, hS, hk0, hx, hby, hml, hown, hZ, r1, r2, r3, hN, hH, hc, hl, hE, hNI⟩ := id A
  subst hst
  obtain ⟨cell, hcell, hobj⟩ := (hI _ _ hH).cell
  have hinst : (Cond.instanceMethod y).before args (s.setVm vm0) = true := mvT hZ wi
  have hpriv : (s.setVm vm0).PrivateAt y := Cond.privateMethod_at (args := args) (mvP hZ wp)
  obtain ⟨mk, _, hnamed, -⟩ := Cond.instanceMethod_spec hinst
  obtain ⟨kr, hkr, hni⟩ := notFace_of_selects (args := args) (mvT hZ wse) mk hnamed
  have hsel := selects_self_of_private (findClass_of_methodNamed hnamed) hkr hni hpriv hinst hy
  exact W.afterCall A (X.privateBackS hx hown (mvT hZ wl) hinst hsel hpriv (mvT hZ wc) hy (conBack (Wt := Wt) (len := 3) hC hZ wc wz hE hr.1 hr.2.1) (g := mkF m pc ls (as.reverse ++ .ref a :: rest)) rfl (by rw [hml]; exact hls) (Steps.refl _) hcell hobj (lenOf hps hlen) rfl (by show 2 * 0 + _ ≤ _; omega) (hb hby hd) (fun _ _ => ⟨rfl, hH, by show cells + _ ≤ _; have := hr.2.2.1; omega, by show slots + _ ≤ _; have := hr.2.2.2; omega⟩)) next
end Calls
end Jvm.Wk
namespace Jvm.Wk
open Jvm Jvm.ClassFile Sem Op Lib Bundle Jvm.Free Jvm.Stand Jvm.LawKit Jvm.RoadKit
abbrev vi (x : Int32) : Value := .int x
abbrev vr (a : Addr) : Value := .ref a
abbrev uu : Slot := .unset
abbrev ar (ad : String) (ty : FieldType) (vs : List Value) : Desc := .inr (ad, ty, vs)
theorem m0 {α : Type} {x : α} {l : List α} : x ∈ x :: l := List.mem_cons_self ..
theorem mS {α : Type} {x y : α} {l : List α} (h : x ∈ l) : x ∈ y :: l := List.mem_cons_of_mem _ h
theorem m1 {α : Type} {x y1 : α} {l : List α} : x ∈ y1 :: x :: l := mS m0
theorem m2 {α : Type} {x y1 y2 : α} {l : List α} : x ∈ y1 :: y2 :: x :: l := mS m1
theorem m3 {α : Type} {x y1 y2 y3 : α} {l : List α} : x ∈ y1 :: y2 :: y3 :: x :: l := mS m2
theorem m4 {α : Type} {x y1 y2 y3 y4 : α} {l : List α} : x ∈ y1 :: y2 :: y3 :: y4 :: x :: l := mS m3
theorem m5 {α : Type} {x y1 y2 y3 y4 y5 : α} {l : List α} : x ∈ y1 :: y2 :: y3 :: y4 :: y5 :: x :: l := mS m4
theorem m6 {α : Type} {x y1 y2 y3 y4 y5 y6 : α} {l : List α} : x ∈ y1 :: y2 :: y3 :: y4 :: y5 :: y6 :: x :: l := mS m5
theorem m7 {α : Type} {x y1 y2 y3 y4 y5 y6 y7 : α} {l : List α} : x ∈ y1 :: y2 :: y3 :: y4 :: y5 :: y6 :: y7 :: x :: l := mS m6
theorem m8 {α : Type} {x y1 y2 y3 y4 y5 y6 y7 y8 : α} {l : List α} : x ∈ y1 :: y2 :: y3 :: y4 :: y5 :: y6 :: y7 :: y8 :: x :: l := mS m7
theorem m9 {α : Type} {x y1 y2 y3 y4 y5 y6 y7 y8 y9 : α} {l : List α} : x ∈ y1 :: y2 :: y3 :: y4 :: y5 :: y6 :: y7 :: y8 :: y9 :: x :: l := mS m8
theorem m10 {α : Type} {x y1 y2 y3 y4 y5 y6 y7 y8 y9 y10 : α} {l : List α} : x ∈ y1 :: y2 :: y3 :: y4 :: y5 :: y6 :: y7 :: y8 :: y9 :: y10 :: x :: l := mS m9
theorem m11 {α : Type} {x y1 y2 y3 y4 y5 y6 y7 y8 y9 y10 y11 : α} {l : List α} : x ∈ y1 :: y2 :: y3 :: y4 :: y5 :: y6 :: y7 :: y8 :: y9 :: y10 :: y11 :: x :: l := mS m10
theorem m12 {α : Type} {x y1 y2 y3 y4 y5 y6 y7 y8 y9 y10 y11 y12 : α} {l : List α} : x ∈ y1 :: y2 :: y3 :: y4 :: y5 :: y6 :: y7 :: y8 :: y9 :: y10 :: y11 :: y12 :: x :: l := mS m11
theorem m13 {α : Type} {x y1 y2 y3 y4 y5 y6 y7 y8 y9 y10 y11 y12 y13 : α} {l : List α} : x ∈ y1 :: y2 :: y3 :: y4 :: y5 :: y6 :: y7 :: y8 :: y9 :: y10 :: y11 :: y12 :: y13 :: x :: l := mS m12
theorem m14 {α : Type} {x y1 y2 y3 y4 y5 y6 y7 y8 y9 y10 y11 y12 y13 y14 : α} {l : List α} : x ∈ y1 :: y2 :: y3 :: y4 :: y5 :: y6 :: y7 :: y8 :: y9 :: y10 :: y11 :: y12 :: y13 :: y14 :: x :: l := mS m13
theorem m15 {α : Type} {x y1 y2 y3 y4 y5 y6 y7 y8 y9 y10 y11 y12 y13 y14 y15 : α} {l : List α} : x ∈ y1 :: y2 :: y3 :: y4 :: y5 :: y6 :: y7 :: y8 :: y9 :: y10 :: y11 :: y12 :: y13 :: y14 :: y15 :: x :: l := mS m14
theorem m16 {α : Type} {x y1 y2 y3 y4 y5 y6 y7 y8 y9 y10 y11 y12 y13 y14 y15 y16 : α} {l : List α} : x ∈ y1 :: y2 :: y3 :: y4 :: y5 :: y6 :: y7 :: y8 :: y9 :: y10 :: y11 :: y12 :: y13 :: y14 :: y15 :: y16 :: x :: l := mS m15
theorem m17 {α : Type} {x y1 y2 y3 y4 y5 y6 y7 y8 y9 y10 y11 y12 y13 y14 y15 y16 y17 : α} {l : List α} : x ∈ y1 :: y2 :: y3 :: y4 :: y5 :: y6 :: y7 :: y8 :: y9 :: y10 :: y11 :: y12 :: y13 :: y14 :: y15 :: y16 :: y17 :: x :: l := mS m16
theorem m18 {α : Type} {x y1 y2 y3 y4 y5 y6 y7 y8 y9 y10 y11 y12 y13 y14 y15 y16 y17 y18 : α} {l : List α} : x ∈ y1 :: y2 :: y3 :: y4 :: y5 :: y6 :: y7 :: y8 :: y9 :: y10 :: y11 :: y12 :: y13 :: y14 :: y15 :: y16 :: y17 :: y18 :: x :: l := mS m17
theorem m19 {α : Type} {x y1 y2 y3 y4 y5 y6 y7 y8 y9 y10 y11 y12 y13 y14 y15 y16 y17 y18 y19 : α} {l : List α} : x ∈ y1 :: y2 :: y3 :: y4 :: y5 :: y6 :: y7 :: y8 :: y9 :: y10 :: y11 :: y12 :: y13 :: y14 :: y15 :: y16 :: y17 :: y18 :: y19 :: x :: l := mS m18
theorem i_lt {x y : Int32} (h : x < y) : x.toInt < y.toInt := Int32.lt_iff_toInt_lt.mp h
theorem i_nlt {x y : Int32} (h : ¬ x < y) : y.toInt ≤ x.toInt := by rw [Int32.lt_iff_toInt_lt] at h; omega
theorem i_eq {x y : Int32} (h : x = y) : x.toInt = y.toInt := by rw [h]
theorem i_ne {x y : Int32} (h : ¬ x = y) : x.toInt ≠ y.toInt := fun e => h (Int32.toInt_inj.mp e)
theorem eqI {x y : Int32} (h : x.toInt = y.toInt) : x = y := Int32.toInt_inj.mp h
section C
variable {x y : Int32}
theorem y_eq (h : x.toInt = y.toInt) : Cd .eq x y := eqI h
theorem n_eq (h : x.toInt ≠ y.toInt) : ¬ Cd .eq x y := fun e => h (i_eq e)
theorem y_ne (h : x.toInt ≠ y.toInt) : Cd .ne x y := fun e => h (i_eq e)
theorem n_ne (h : x.toInt = y.toInt) : ¬ Cd .ne x y := fun e => e (eqI h)
theorem y_lt (h : x.toInt < y.toInt) : Cd .lt x y := Int32.lt_iff_toInt_lt.mpr h
theorem n_lt (h : y.toInt ≤ x.toInt) : ¬ Cd .lt x y := fun e => by have := i_lt e; omega
theorem y_ge (h : y.toInt ≤ x.toInt) : Cd .ge x y := fun e => by have := i_lt e; omega
theorem n_ge (h : x.toInt < y.toInt) : ¬ Cd .ge x y := fun e => e (Int32.lt_iff_toInt_lt.mpr h)
theorem y_gt (h : y.toInt < x.toInt) : Cd .gt x y := Int32.lt_iff_toInt_lt.mpr h
theorem n_gt (h : x.toInt ≤ y.toInt) : ¬ Cd .gt x y := fun e => by have := i_lt e; omega
theorem y_le (h : x.toInt ≤ y.toInt) : Cd .le x y := fun e => by have := i_lt e; omega
theorem t_eq (h : Cd .eq x y) : x.toInt = y.toInt := i_eq h
theorem f_eq (h : ¬ Cd .eq x y) : x.toInt ≠ y.toInt := i_ne h
theorem t_lt (h : Cd .lt x y) : x.toInt < y.toInt := i_lt h
theorem f_lt (h : ¬ Cd .lt x y) : y.toInt ≤ x.toInt := i_nlt h
theorem t_ge (h : Cd .ge x y) : y.toInt ≤ x.toInt := i_nlt h
theorem f_ge (h : ¬ Cd .ge x y) : x.toInt < y.toInt := i_lt (Classical.not_not.mp h)
theorem t_gt (h : Cd .gt x y) : y.toInt < x.toInt := i_lt h
theorem f_gt (h : ¬ Cd .gt x y) : x.toInt ≤ y.toInt := i_nlt h
theorem t_le (h : Cd .le x y) : x.toInt ≤ y.toInt := i_nlt h
theorem f_le (h : ¬ Cd .le x y) : y.toInt < x.toInt := i_lt (Classical.not_not.mp h)
end C
theorem a_add (x y : Int32) : ((x + y).toInt - (x.toInt + y.toInt)) % 4294967296 = 0 ∧ -2147483648 ≤ (x + y).toInt ∧ (x + y).toInt < 2147483648 := ⟨c_iadd x y, rng32 _⟩
theorem a_sub (x y : Int32) : ((x - y).toInt - (x.toInt - y.toInt)) % 4294967296 = 0 ∧ -2147483648 ≤ (x - y).toInt ∧ (x - y).toInt < 2147483648 := ⟨c_isub x y, rng32 _⟩
theorem a_and (x m : Int32) (k : Nat) (M : Int) (hk : k ≤ 31) (hm : m.toBitVec.toNat = 2 ^ k - 1) (hM : ((2 ^ k : Nat) : Int) = M) : (x &&& m).toInt = x.toInt % M := by rw [← hM]; exact c_mask x m k hk hm
theorem a_shr (x q : Int32) (k : Nat) (M : Int) (hk : q.toBitVec.toNat % 32 = k) (hM : ((2 ^ k : Nat) : Int) = M) : (x >>> (q &&& 31)).toInt = x.toInt / M := by rw [← hM]; exact c_ishr x q k hk
theorem a_shl (x q : Int32) (k : Nat) (M : Int) (hk : q.toBitVec.toNat % 32 = k) (hM : ((2 ^ k : Nat) : Int) = M) : ((x <<< (q &&& 31)).toInt - x.toInt * M) % 4294967296 = 0 ∧ -2147483648 ≤ (x <<< (q &&& 31)).toInt ∧ (x <<< (q &&& 31)).toInt < 2147483648 := by rw [← hM]; exact ⟨c_ishl x q k hk, rng32 _⟩
theorem a_ushr (x q : Int32) (k : Nat) (M : Int) (hk : q.toBitVec.toNat % 32 = k) (h0 : 0 < k) (hM : ((2 ^ k : Nat) : Int) = M) : (XT.ushr x q).toInt = (x.toInt % 4294967296) / M := by rw [← hM]; exact c_iushr x q k hk h0
theorem a_rem (x y : Int32) (d : Int) (hy : y.toInt = d) (hd : 0 < d) : (0 ≤ x.toInt → (x % y).toInt = x.toInt % d) ∧ (x.toInt < 0 → (x % y).toInt = -((-x.toInt) % d)) := c_irem x y d hy
theorem a_i2c (x : Int32) : (x.toUInt32.toUInt16.toUInt32.toInt32.toInt - x.toInt) % 65536 = 0 ∧ 0 ≤ x.toUInt32.toUInt16.toUInt32.toInt32.toInt ∧ x.toUInt32.toUInt16.toUInt32.toInt32.toInt < 65536 := c_i2c x
theorem a_i2b (x : Int32) : (x.toInt8.toInt32.toInt - x.toInt) % 256 = 0 ∧ -128 ≤ x.toInt8.toInt32.toInt ∧ x.toInt8.toInt32.toInt < 128 := c_i2b x
theorem z_i2c {x : Int32} (h : 0 ≤ x.toInt ∧ x.toInt ≤ 65535) : x.toUInt32.toUInt16.toUInt32.toInt32 = x := eqI (by have := a_i2c x; omega)
theorem z_i2b {x : Int32} (h : -128 ≤ x.toInt ∧ x.toInt ≤ 127) : x.toInt8.toInt32 = x := eqI (by have := a_i2b x; omega)
theorem z_b255 {x : Int32} (h : 0 ≤ x.toInt ∧ x.toInt ≤ 255) : x.toInt8.toInt32 &&& 255 = x := eqI (by have := a_i2b x; have := a_and x.toInt8.toInt32 255 8 256 (by decide) (by decide) (by decide); omega)
theorem z_narC {x : Int32} (h : 0 ≤ x.toInt ∧ x.toInt ≤ 65535) : nar .char x = x := z_i2c h
theorem z_narB {x : Int32} (h : -128 ≤ x.toInt ∧ x.toInt ≤ 127) : nar .byte x = x := z_i2b h
theorem nw_char {x : Int32} (h : 0 ≤ x.toInt ∧ x.toInt ≤ 65535) : narrow .char (.int x) = .int x := by have e := z_i2c h; have := XT.narrow_c x; rw [e] at this; exact this
theorem nw_byte {x : Int32} (h : -128 ≤ x.toInt ∧ x.toInt ≤ 127) : narrow .byte (.int x) = .int x := by have e := z_i2b h; have := XT.narrow_b x; rw [e] at this; exact this
theorem nw_bool {x : Int32} (h : 0 ≤ x.toInt ∧ x.toInt ≤ 1) : narrow .boolean (.int x) = .int x := by
  have : x = 0 ∨ x = 1 := by
    rcases (by omega : x.toInt = 0 ∨ x.toInt = 1) with q | q
    · exact Or.inl (eqI q)
    · exact Or.inr (eqI q)
  rcases this with rfl | rfl <;> rfl
theorem ft_byte {x : Int32} (h : -128 ≤ x.toInt ∧ x.toInt ≤ 127) : fits .byte (.int x) = true := by have := fits_nar_byte x; rw [z_i2b h] at this; exact this
end Jvm.Wk
namespace Jvm.Wk
open Jvm Jvm.ClassFile Sem Op Lib Bundle Jvm.Free Jvm.Stand Jvm.LawKit Jvm.RoadKit
section Walk
variable {Z : State} {EL : Bool × List (String × Nat)} {R : Room} {own nm : String} {bytes : ByteArray} {ml : Nat} {ret : Option FieldType} {Q : Option Value → List Ent → Prop} {D D' : List Ent} {k n pc : Nat} {ls ls' : Array Slot} {st : List Value} {a0 : Array Value}
theorem W.dropAt (i : Nat) (hD : D.eraseIdx i = D') (next : W Z EL R own nm bytes ml ret Q D' k n pc ls st) : W Z EL R own nm bytes ml ret Q D k n pc ls st := W.heap (fun _ _ H => hD ▸ H.sub (List.eraseIdx_sublist ..)) next
theorem Hp.ne {i j : Nat} {x y : Ent} {vm : Vm} {h : Heap} (H : Hp Z EL D vm h) (hij : i ≠ j) (hi : D[i]? = some x) (hj : D[j]? = some y) (w : x.2.1 = true ∨ y.2.1 = true) : x.1 ≠ y.1 := by
  have P := H.2.2.2
  obtain ⟨i1, rfl⟩ := List.getElem?_eq_some_iff.mp hi
  obtain ⟨j1, rfl⟩ := List.getElem?_eq_some_iff.mp hj
  rw [List.pairwise_iff_getElem] at P
  rcases Nat.lt_or_gt_of_ne hij with q | q
  · exact P i j i1 j1 q w
  · exact (P j i j1 i1 q w.symm).symm
theorem wS_of (h1 : (Cond.initialized "java/lang/String").before a0 Z = true) (h2 : (Cond.instantiable "java/lang/String" 4).before a0 Z = true) (h3 : (Cond.arrayClass .byte).before a0 Z = true) (h4 : (Cond.laysFinal "java/lang/String" "java/lang/String" "value" "[B").before a0 Z = true) (h5 : (Cond.laysFinal "java/lang/String" "java/lang/String" "coder" "B").before a0 Z = true) (h6 : (Cond.soleField "java/lang/String" "value").before a0 Z = true) (h7 : (Cond.soleField "java/lang/String" "coder").before a0 Z = true) :
    ∀ a ∈ Bundle.stringAtoms, a.before a0 Z = true := fun a ha => by
  simp only [Bundle.stringAtoms, Bundle.sN, List.mem_cons, List.not_mem_nil, or_false] at ha
  rcases ha with rfl | rfl | rfl | rfl | rfl | rfl | rfl <;> assumption
theorem W.isubK {x y : Int32} (z : Int32) (hd : decode bytes pc = .ok (.isub, 1)) (hz : x - y = z) (next : W Z EL R own nm bytes ml ret Q D k n (pc + 1) ls (.int z :: st)) : W Z EL R own nm bytes ml ret Q D k n pc ls (.int y :: .int x :: st) := W.isub hd (hz ▸ next)
theorem W.ishlK {x y : Int32} (z : Int32) (hd : decode bytes pc = .ok (.ishl, 1)) (hz : x <<< (y &&& 31) = z) (next : W Z EL R own nm bytes ml ret Q D k n (pc + 1) ls (.int z :: st)) : W Z EL R own nm bytes ml ret Q D k n pc ls (.int y :: .int x :: st) := W.ishl hd (hz ▸ next)
theorem W.ishrK {x y : Int32} (z : Int32) (hd : decode bytes pc = .ok (.ishr, 1)) (hz : x >>> (y &&& 31) = z) (next : W Z EL R own nm bytes ml ret Q D k n (pc + 1) ls (.int z :: st)) : W Z EL R own nm bytes ml ret Q D k n pc ls (.int y :: .int x :: st) := W.ishr hd (hz ▸ next)
theorem W.i2cK {x : Int32} (z : Int32) (hd : decode bytes pc = .ok (.i2c, 1)) (hz : x.toUInt32.toUInt16.toUInt32.toInt32 = z) (next : W Z EL R own nm bytes ml ret Q D k n (pc + 1) ls (.int z :: st)) : W Z EL R own nm bytes ml ret Q D k n pc ls (.int x :: st) := W.i2c hd (hz ▸ next)
theorem W.iincK {i : Nat} {cst : Int} {x : Int32} (v r : Int32) (hd : decode bytes pc = .ok (.iinc i cst, 3)) (hv : Int32.ofInt cst = v) (hl : ls[i]? = some (.val (.int x))) (hr : x + v = r) (hl' : storeLocals ls i (.int r) = some ls') (next : W Z EL R own nm bytes ml ret Q D k n (pc + 3) ls' st) : W Z EL R own nm bytes ml ret Q D k n pc ls st :=
  W.iinc v hd hv hl (hr ▸ hl') next
end Walk
theorem nn32 {x : Int32} (h : 0 ≤ x.toInt) : x.toInt = x.toBitVec.toNat := by
  have e : x.toInt = x.toBitVec.toInt := rfl
  have e2 := BitVec.toInt_eq_toNat_cond x.toBitVec
  have := x.toBitVec.isLt
  split at e2 <;> omega
theorem a_orD (x y : Int32) (h1 : 0 ≤ x.toInt ∧ x.toInt < 256) (h2 : 0 ≤ y.toInt) (h3 : y.toInt % 256 = 0) : (x ||| y).toInt = x.toInt + y.toInt := by
  have ex := nn32 h1.1
  have ey := nn32 h2
  have hb : (x ||| y).toBitVec.toNat = x.toBitVec.toNat + y.toBitVec.toNat := by
    have e : (x ||| y).toBitVec.toNat = x.toBitVec.toNat ||| y.toBitVec.toNat := by simp
    rw [e]
    have hy : y.toBitVec.toNat = (y.toBitVec.toNat / 256) <<< 8 := by rw [Nat.shiftLeft_eq]; omega
    have hx : x.toBitVec.toNat < 2 ^ 8 := by omega
    rw [hy, Nat.or_comm, ← Nat.shiftLeft_add_eq_or_of_lt hx]; omega
  have hlt : x.toBitVec.toNat + y.toBitVec.toNat < 2147483648 := by
    have := x.toInt_lt; have := y.toInt_lt
    omega
  have e : (x ||| y).toInt = (x ||| y).toBitVec.toInt := rfl
  rw [e, BitVec.toInt_eq_toNat_cond, hb, if_pos (by omega)]; omega
theorem z_or8 {a y x : Int32} (h : 0 ≤ x.toInt ∧ x.toInt ≤ 65535) (ha : a.toInt = x.toInt % 256) (hy : y.toInt = x.toInt / 256 * 256) : a ||| y = x := eqI (by rw [a_orD a y (by omega) (by omega) (by omega)]; omega)
def sel (j : Int32) (l : List Int32) : Int32 := l.getD j.toInt.toNat 0
theorem W.caloadS {Z : State} {EL : Bool × List (String × Nat)} {R : Room} {own nm : String} {bytes : ByteArray} {ml : Nat} {ret : Option FieldType} {Q : Option Value → List Ent → Prop} {D : List Ent} {k n pc : Nat} {ls : Array Slot} {st : List Value} {a : Addr} {b : Bool} {ad : String} {l : List Int32} {j j' : Int32} (hd : decode bytes pc = .ok (.caload, 1)) (hm : (a, b, .inr (ad, .char, l.map Value.int)) ∈ D) (hj : j.toInt = j'.toInt) (hb : 0 ≤ j'.toInt ∧ j'.toInt < l.length)
    (next : W Z EL R own nm bytes ml ret Q D k n (pc + 1) ls (.int (sel j' l) :: st)) : W Z EL R own nm bytes ml ret Q D k n pc ls (.int j :: .ref a :: st) :=
  W.caload j'.toInt.toNat hd hm (Idx.of_toInt (by omega)) (by
    have h : j'.toInt.toNat < l.length := by omega
    rw [List.getElem?_map, List.getElem?_eq_getElem h]; unfold sel; rw [List.getD_eq_getElem?_getD, List.getElem?_eq_getElem h]; rfl) next
theorem z_sub0 (x : Int32) : x - 0 = x := by simp
theorem z_shl0 (x : Int32) : x <<< ((0 : Int32) &&& 31) = x := by
  apply Int32.toBitVec_inj.mp; simp
theorem z_shr0 (x : Int32) : x >>> ((0 : Int32) &&& 31) = x := eqI (by have := a_shr x 0 0 1 (by decide) (by decide); omega)
section L
variable {x y : Int64}
end L
def si (Z : State) (C n d : String) : Int32 := match (Term.static C n d).eval #[] Z none [] Z with | some (.int x) => x | _ => 0
def sv (Z : State) (C n d : String) : Value := match (Term.static C n d).eval #[] Z none [] Z with | some v => v | none => .null
theorem eval_static {Z : State} {a b : Array Value} {C n d : String} : (Term.static C n d).eval a Z none [] Z = (Term.static C n d).eval b Z none [] Z := rfl
theorem si_of {Z : State} {C n d : String} {x : Int32} {a : Array Value} (h : (Term.static C n d).eval a Z none [] Z = some (.int x)) : si Z C n d = x := by
  unfold si; rw [eval_static (b := a), h]
theorem sv_of {Z : State} {C n d : String} {x : Value} {a : Array Value} (h : (Term.static C n d).eval a Z none [] Z = some x) : sv Z C n d = x := by
  unfold sv; rw [eval_static (b := a), h]
end Jvm.Wk
namespace Jvm.Wk
open Jvm Jvm.ClassFile Sem Op Lib Bundle Jvm.Free Jvm.Stand Jvm.LawKit Jvm.RoadKit
section Natives
variable {Z : State} {EL : Bool × List (String × Nat)} {R : Room} {own nm : String} {bytes : ByteArray} {ml : Nat} {ret : Option FieldType} {Q : Option Value → List Ent → Prop} {D D' : List Ent} {k n pc : Nat} {ls ls' : Array Slot} {st : List Value} {a0 : Array Value} {idx : Nat}
theorem range_get (vs : List Value) (s1 n1 : Nat) (dv : Value) (h : s1 + n1 ≤ vs.length) : (vs.drop s1).take n1 = (List.range n1).map fun i => vs.getD (s1 + i) dv := by
  apply List.ext_getElem?
  intro i
  by_cases hi : i < n1
  · rw [List.getElem?_take, if_pos hi, List.getElem?_drop, List.getElem?_map, List.getElem?_range hi]
    have : s1 + i < vs.length := by omega
    simp [this]
  · rw [List.getElem?_take, if_neg hi, List.getElem?_map, List.getElem?_eq_none (by simpa using Nat.le_of_not_lt hi)]; rfl
theorem W.cpy {a b : Addr} {wa : Bool} {ada adb : String} {ty : FieldType} {vs vd : List Value} {sp dp nn : Int32} (i s1 d1 n1 Wt : Nat) (hd : decode bytes pc = .ok (.invokestatic idx, 3)) (w1 : (Cond.methodLink own idx Jvm.Stand.acN).before a0 Z = true) (w2 : (Cond.native Jvm.Stand.acN).before a0 Z = true) (w3 : (Cond.static Jvm.Stand.acN).before a0 Z = true) (w4 : (Cond.initialized "java/lang/System").before a0 Z = true)
    (hm : (a, wa, .inr (ada, ty, vs)) ∈ D) (hi : D[i]? = some (b, true, .inr (adb, ty, vd))) (hty : refKind ty = false) (hs : Idx sp s1) (hdp : Idx dp d1) (hnn : Idx nn n1) (h45 : s1 + n1 ≤ vs.length ∧ d1 + n1 ≤ vd.length) (hls : ls.size = ml) (hW : (st.map fun v => v.category).sum = Wt) (hr : 1 ≤ R.frames ∧ Wt + (nativeFrameWords "java/lang/System" "arraycopy" 5 + 11) ≤ R.locals)
    (hD : D.set i (b, true, .inr (adb, ty, vd.take d1 ++ (vs.drop s1).take n1 ++ vd.drop (d1 + n1))) = D') (next : W Z EL R own nm bytes ml ret Q D' k n (pc + 3) ls st) : W Z EL R own nm bytes ml ret Q D k n pc ls (.int nn :: .int dp :: .ref b :: .int sp :: .ref a :: st) := by
  intro p l e s m args below meth c T vm0 k0 locs cells slots A
  obtain ⟨X, hS, hk0, hx, hby, hml, hown, hZ, r1, r2, r3, hN, hH, hc, hl, hE, hNI⟩ := A
  subst hD
  have SA := (hH.2.2.1 _ hm).1
  obtain ⟨SB, g⟩ := hH.2.2.1 _ (List.mem_of_getElem? hi)
  obtain ⟨g1, g2, g3⟩ := g rfl
  obtain ⟨ka, FA⟩ := Sat.arv .null SA
  obtain ⟨kb, FB⟩ := Sat.arv .null SB
  have va : (Nat.toInt32 vs.length).toNatClampNeg = vs.length := by obtain ⟨_, _, _, q, _⟩ := SA; exact (Idx.of_nat q).2
  have vb : (Nat.toInt32 vd.length).toNatClampNeg = vd.length := by obtain ⟨_, _, _, q, _⟩ := SB; exact (Idx.of_nat q).2
  obtain ⟨T', h', L, X', e', hN', K, F', stp⟩ := cpA X hx hZ hown w1 w2 w3 w4 rfl FA FB (Or.inl ⟨rfl, hty⟩) hs.1 hdp.1 hnn.1 (by rw [hs.2, hnn.2, va]; exact h45.1) (by rw [hdp.2, hnn.2, vb]; exact h45.2) rfl (by rw [hdp.2, hnn.2]; exact h45.2) hN g1
    (g := mkF m pc ls (.int nn :: .int dp :: .ref b :: .int sp :: .ref a :: st)) rfl (by rw [hml]; exact hls) rfl (hb hby hd) hr.1 (W := Wt) (by show 2 * 0 + _ ≤ _; omega) hr.2
  rw [hs.2, hdp.2, hnn.2, ← range_get vs s1 n1 .null h45.1] at F'
  have S' : Sat Z h' b (.inr (adb, ty, vd.take d1 ++ (vs.drop s1).take n1 ++ vd.drop (d1 + n1))) := Sat.of_arv F' (by rw [vb]; simp; omega) fun q => by
    obtain ⟨_, _, _, _, _, r⟩ := SB; exact (r q).keep K
  have H' := hH.keepSet hi K S' trivial
  obtain ⟨s₂, o, q1, r⟩ := next p l e s m args below meth c T' vm0 k0 L cells slots ⟨X', hS, by rw [e']; exact Nat.le_trans hk0 K.1, hx, hby, hml, hown, hZ, r1, r2, r3, hN', by rw [e']; exact H', hc, hl, hE, hNI⟩
  exact ⟨s₂, o, stp _ q1, r⟩
theorem W.clone {a : Addr} {wa : Bool} {ad : String} {ty : FieldType} {vs : List Value} (Wt N : Nat) (hd : decode bytes pc = .ok (.invokevirtual idx, 3))
    (w1 : (Cond.methodLink own idx ⟨ad, "clone", "()Ljava/lang/Object;"⟩).before a0 Z = true) (w2 : (Cond.sameMethod ad "java/lang/Object" "clone" "()Ljava/lang/Object;").before a0 Z = true) (w3 : (Cond.native ⟨"java/lang/Object", "clone", "()Ljava/lang/Object;"⟩).before a0 Z = true)
    (w4 : (Cond.instanceMethod ⟨"java/lang/Object", "clone", "()Ljava/lang/Object;"⟩).before a0 Z = true) (w5 : (Cond.selects ad ⟨ad, "clone", "()Ljava/lang/Object;"⟩ ⟨"java/lang/Object", "clone", "()Ljava/lang/Object;"⟩).before a0 Z = true) (w6 : (Cond.castable ad "java/lang/Cloneable").before a0 Z = true)
    (hm : (a, wa, .inr (ad, ty, vs)) ∈ D) (hne : ad ≠ "") (hN : vs.length = N) (hls : ls.size = ml) (hW : (st.map fun v => v.category).sum = Wt) (hr : (1 ≤ R.frames ∧ Wt + 14 ≤ R.locals) ∧ k + 1 ≤ R.cells ∧ n + N ≤ R.slots)
    (next : ∀ b, W Z EL R own nm bytes ml ret Q ((b, true, .inr (ad, ty, vs)) :: D) (k + 1) (n + N) (pc + 3) ls (.ref b :: st)) : W Z EL R own nm bytes ml ret Q D k n pc ls (.ref a :: st) := by
  intro p l e s m args below meth c T vm0 k0 locs cells slots A
  obtain ⟨X, hS, hk0, hx, hby, hml, hown, hZ, r1, r2, r3, hN', hH, hc, hl, hE, hNI⟩ := A
  have SA := (hH.2.2.1 _ hm).1
  obtain ⟨ka, FA⟩ := Sat.arv .null SA
  have va : (Nat.toInt32 vs.length).toNatClampNeg = vs.length := by obtain ⟨_, _, _, q, _⟩ := SA; exact (Idx.of_nat q).2
  have EA : Exa Z T.heap a ad := by obtain ⟨_, _, _, _, _, r⟩ := SA; exact r hne
  obtain ⟨T', h', X', e', E, F', E', stp⟩ := cloneH X hx hZ hown w1 w2 w3 w4 w5 w6 rfl FA.arh EA (g := mkF m pc ls (.ref a :: st)) rfl (by rw [hml]; exact hls) rfl (hb hby hd) hr.1.1 (W := Wt) (cap := N) (by show 2 * 0 + _ ≤ _; omega) hr.1.2 (by rw [va]; omega) (by omega) (by omega)
  have S' : Sat Z h' T.heap.size (.inr (ad, ty, vs)) := Sat.of_arv (z := Nat.toInt32 vs.length) F' va fun _ => E'
  have H' := hH.new E S' trivial
  obtain ⟨s₂, o, q1, r⟩ := next T.heap.size p l e s m args below meth c T' vm0 k0 locs (cells + 1) (slots + N) ⟨X', hS, by rw [e']; exact Nat.le_trans hk0 E.1, hx, hby, hml, hown, hZ, r1, r2, r3, hN', by rw [e']; exact H', by omega, by omega, hE, hNI⟩
  exact ⟨s₂, o, stp _ q1, r⟩
end Natives
end Jvm.Wk
namespace Jvm.Wk
open Jvm Jvm.ClassFile Sem Op Lib Bundle Jvm.Free Jvm.Stand Jvm.LawKit Jvm.RoadKit
section Start
variable {s : State} {args : Array Value} {C n d C' n' d' K : String}
theorem sf_int (hi : (Cond.initializedFor C n d).before args s = true) (h : (Cond.isInt (.static C n d)).before args s = true) : Sta s s.heap C n d (.int (si s C n d)) := by
  obtain ⟨x, e⟩ := is_v (Cond.before_iff.mp h)
  rw [si_of e]; exact Sta.start e (Or.inl hi)
theorem sf_nz (h : (Cond.isInt (.static C n d)).before args s = true) (hz : (Cond.not (.eq (.static C n d) (.int 0))).before args s = true) : (si s C n d).toInt ≠ 0 := by
  obtain ⟨x, e⟩ := is_v (Cond.before_iff.mp h)
  rw [si_of e]
  intro q
  have : x = 0 := eqI q
  subst this
  have h2 := not_v (Cond.before_iff.mp hz)
  rw [eq_i e (Term.int_eval 0) rfl] at h2
  cases h2
theorem sf_isref (h : (Cond.isRef (.static C n d)).before args s = true) : (sv s C n d).isRef = true := by
  obtain ⟨x, e, r⟩ := isR_v (Cond.before_iff.mp h)
  rw [sv_of e]; exact r
theorem sf_ref (hi : (Cond.initializedFor C n d).before args s = true) (h : (Cond.isRef (.static C n d)).before args s = true) : Sta s s.heap C n d (sv s C n d) := by
  obtain ⟨x, e, r⟩ := isR_v (Cond.before_iff.mp h)
  rw [sv_of e]; exact Sta.start e (Or.inl hi)
theorem sf_ref2 (hz : (Cond.initialized C).before args s = true) (hl : (Cond.laysStatic C n d).before args s = true) (h : (Cond.isRef (.static C n d)).before args s = true) : Sta s s.heap C n d (sv s C n d) := by
  obtain ⟨x, e, r⟩ := isR_v (Cond.before_iff.mp h)
  rw [sv_of e]; exact Sta.start e (Or.inr ⟨hz, hl⟩)
end Start
theorem CHv.nil {Z : State} {vm : Vm} {h : Heap} : CHv Z [] vm h := fun p hp => by cases hp
theorem Hp.start {Z : State} {EL : Bool × List (String × Nat)} (H : CHv Z EL.2 Z.vm Z.heap) : Hp Z EL [] Z.vm Z.heap := ⟨⟨Nat.le_refl _, fun _ _ q => q⟩, H, fun x hx => (by cases hx), List.Pairwise.nil⟩
end Jvm.Wk
namespace Jvm.Wk
open Jvm Jvm.ClassFile Sem Op Lib Bundle Jvm.Free Jvm.Stand Jvm.LawKit Jvm.RoadKit
theorem Con.mono {Z : State} {EL : Bool × List (String × Nat)} {y : MethodName} {bytes : ByteArray} {maxL : Nat} {ret : Option FieldType} {rm : Room} {as : List Value} {D : List Ent} {Q Q' : Option Value → List Ent → Prop} (h : Con Z EL y bytes maxL ret rm as D Q) (q : ∀ v D', Q v D' → Q' v D') : Con Z EL y bytes maxL ret rm as D Q' := by
  intro hE l ws
  refine MetFree.mono (h hE l ws) (fun _ _ p => p) (fun _ _ _ _ _ p => p) ?_
  intro a s o t _ r
  obtain ⟨v, L, h1, h2, ⟨D', h3, h4⟩, h5⟩ := r
  exact ⟨v, L, h1, h2, ⟨D', h3, q v D' h4⟩, h5⟩
end Jvm.Wk
namespace Jvm.Wk
open Jvm Jvm.ClassFile Sem Op Lib Bundle Jvm.Free Jvm.Stand Jvm.LawKit Jvm.RoadKit
theorem eq_int_val {s : State} {args : Array Value} {t : Term} {c : Int32} (h : (Cond.eq t (.int c)).value args s none s [] = some true) : t.eval args s none [] s = some (.int c) := by
  obtain ⟨x, y, e1, e2, -, -⟩ := cmp_v (Or.inl h)
  have c1 : y = .int c := Option.some.inj (e2.symm.trans (Term.int_eval c))
  subst c1
  cases x <;> simp [Cond.value, e1, e2] at h
  rw [e1, h]
theorem sf_const {s : State} {args : Array Value} {C n d : String} {c : Int32} (hi : (Cond.initializedFor C n d).before args s = true) (h : (Cond.eq (.static C n d) (.int c)).before args s = true) : Sta s s.heap C n d (.int c) :=
  Sta.start (eq_int_val (Cond.before_iff.mp h)) (Or.inl hi)
end Jvm.Wk
namespace Jvm.Wk
open Jvm Jvm.ClassFile Sem Op Lib Bundle Jvm.Free Jvm.Stand Jvm.LawKit Jvm.RoadKit
def ta (Z : State) (t : Term) : Addr := match t.eval #[] Z none [] Z with | some (.ref a) => a | _ => 0
section Old
variable {s : State} {args : Array Value} {t : Term} {O f d K : String} {EL : Bool × List (String × Nat)} {D : List Ent} {a : Addr} {de : Desc}
theorem ta_of (e : t.eval #[] s none [] s = t.eval args s none [] s) (h : t.eval args s none [] s = some (.ref a)) : ta s t = a := by
  unfold ta; rw [e, h]
theorem t_sta {C n dd : String} (hi : (Cond.initializedFor C n dd).before args s = true ∨ ((Cond.initialized C).before args s = true ∧ (Cond.laysStatic C n dd).before args s = true)) (h : ∃ x, (Term.static C n dd).eval args s none [] s = some (.ref x)) : Sta s s.heap C n dd (.ref (ta s (.static C n dd))) := by
  obtain ⟨x, hx⟩ := h
  rw [ta_of (args := args) (t := .static C n dd) rfl hx]; exact Sta.start hx hi
end Old
end Jvm.Wk
namespace Jvm.Wk
end Jvm.Wk
namespace Jvm.Wk
open Jvm Jvm.ClassFile Sem Op Lib Bundle Jvm.Free Jvm.Stand Jvm.LawKit Jvm.RoadKit
end Jvm.Wk
namespace Jvm.Wk
open Jvm Jvm.ClassFile Sem Op Lib Bundle Jvm.Free Jvm.Stand Jvm.LawKit Jvm.RoadKit
end Jvm.Wk
namespace Jvm.Wk
open Jvm Jvm.ClassFile Sem Op Lib Bundle Jvm.Free Jvm.Stand Jvm.LawKit Jvm.RoadKit
end Jvm.Wk
namespace Jvm.Wk
open Jvm Jvm.ClassFile Sem Op Lib Bundle Jvm.Free Jvm.Stand Jvm.LawKit Jvm.RoadKit
section Lists
variable {Z : State} {EL : Bool × List (String × Nat)} {R : Room} {own nm : String} {bytes : ByteArray} {ml : Nat} {ret : Option FieldType} {Q : Option Value → List Ent → Prop} {D D' : List Ent} {k n pc : Nat} {ls ls' : Array Slot} {st : List Value} {a0 : Array Value}
theorem W.alenS {a : Addr} {b : Bool} {ad : String} {ty : FieldType} {l : List Int32} {z : Int32} (hd : decode bytes pc = .ok (.arraylength, 1)) (hm : (a, b, .inr (ad, ty, l.map Value.int)) ∈ D) (hz : (l.length : Int) = z.toInt)
    (next : W Z EL R own nm bytes ml ret Q D k n (pc + 1) ls (.int z :: st)) : W Z EL R own nm bytes ml ret Q D k n pc ls (.ref a :: st) :=
  W.alen z hd hm (by
    have := rng32 z
    rw [List.length_map]
    exact eqI (by rw [len_toInt (by omega)]; exact hz)) next
theorem W.baloadS {a : Addr} {b : Bool} {ad : String} {l : List Int32} {j j' : Int32} (hd : decode bytes pc = .ok (.baload, 1)) (hm : (a, b, .inr (ad, .byte, l.map Value.int)) ∈ D) (hj : j.toInt = j'.toInt) (hb : 0 ≤ j'.toInt ∧ j'.toInt < l.length)
    (next : W Z EL R own nm bytes ml ret Q D k n (pc + 1) ls (.int (sel j' l) :: st)) : W Z EL R own nm bytes ml ret Q D k n pc ls (.int j :: .ref a :: st) :=
  W.baload j'.toInt.toNat hd hm (Idx.of_toInt (by omega)) (by
    have h : j'.toInt.toNat < l.length := by omega
    rw [List.getElem?_map, List.getElem?_eq_getElem h]; unfold sel; rw [List.getD_eq_getElem?_getD, List.getElem?_eq_getElem h]; rfl) next
theorem W.bastoreS {a : Addr} {ad : String} {l : List Int32} {z x x' : Int32} (i : Nat) (hd : decode bytes pc = .ok (.bastore, 1)) (hi : D[i]? = some (a, true, .inr (ad, .byte, l.map Value.int))) (hz : 0 ≤ z.toInt ∧ z.toInt < l.length) (hx' : nar .byte x = x')
    (hD : D.set i (a, true, .inr (ad, .byte, (l.set z.toInt.toNat x').map Value.int)) = D') (next : W Z EL R own nm bytes ml ret Q D' k n (pc + 1) ls st) : W Z EL R own nm bytes ml ret Q D k n pc ls (.int x :: .int z :: .ref a :: st) :=
  W.bastore i z.toInt.toNat hd hi (Idx.of_toInt (by omega)) (by rw [List.length_map]; omega) hx' (by rw [← hD, List.map_set]) next
theorem W.newarrB {z : Int32} (B : Nat) (hd : decode bytes pc = .ok (.newarray .byte, 2)) (w : (Cond.arrayClass .byte).before a0 Z = true) (hz : 0 ≤ z.toInt ∧ z.toInt ≤ B) (hb8 : B * 8 ≤ 536870912) (hr : k + 1 ≤ R.cells ∧ n + B ≤ R.slots)
    (next : ∀ a, W Z EL R own nm bytes ml ret Q ((a, true, .inr ("[B", .byte, (List.replicate z.toInt.toNat (0 : Int32)).map Value.int)) :: D) (k + 1) (n + B) (pc + 2) ls (.ref a :: st)) : W Z EL R own nm bytes ml ret Q D k n pc ls (.int z :: st) :=
  W.newarr (a0 := a0) z.toInt.toNat (ad := "[B") (ty := .byte) hd rfl w (Idx.of_toInt (by omega)) rfl (by omega) ⟨hr.1, by omega⟩ (fun a => by
    have h := next a
    rw [List.map_replicate] at h
    exact W.mono (Nat.le_refl _) (by omega) h)
def cpl (l1 : List Int32) (s : Nat) (l2 : List Int32) (d n : Nat) : List Int32 := l2.take d ++ (l1.drop s).take n ++ l2.drop (d + n)
theorem W.cpyS {a b : Addr} {wa : Bool} {ada adb : String} {ty : FieldType} {l1 l2 : List Int32} {sp dp nn : Int32} {idx : Nat} (i Wt : Nat) (hd : decode bytes pc = .ok (.invokestatic idx, 3)) (w1 : (Cond.methodLink own idx Jvm.Stand.acN).before a0 Z = true) (w2 : (Cond.native Jvm.Stand.acN).before a0 Z = true) (w3 : (Cond.static Jvm.Stand.acN).before a0 Z = true) (w4 : (Cond.initialized "java/lang/System").before a0 Z = true)
    (hm : (a, wa, .inr (ada, ty, l1.map Value.int)) ∈ D) (hi : D[i]? = some (b, true, .inr (adb, ty, l2.map Value.int))) (hty : refKind ty = false) (hs : 0 ≤ sp.toInt ∧ 0 ≤ dp.toInt ∧ 0 ≤ nn.toInt ∧ sp.toInt + nn.toInt ≤ l1.length ∧ dp.toInt + nn.toInt ≤ l2.length) (hls : ls.size = ml) (hW : (st.map fun v => v.category).sum = Wt) (hr : 1 ≤ R.frames ∧ Wt + (nativeFrameWords "java/lang/System" "arraycopy" 5 + 11) ≤ R.locals)
    (hD : D.set i (b, true, .inr (adb, ty, (cpl l1 sp.toInt.toNat l2 dp.toInt.toNat nn.toInt.toNat).map Value.int)) = D') (next : W Z EL R own nm bytes ml ret Q D' k n (pc + 3) ls st) : W Z EL R own nm bytes ml ret Q D k n pc ls (.int nn :: .int dp :: .ref b :: .int sp :: .ref a :: st) :=
  W.cpy i sp.toInt.toNat dp.toInt.toNat nn.toInt.toNat Wt hd w1 w2 w3 w4 hm hi hty (Idx.of_toInt (by omega)) (Idx.of_toInt (by omega)) (Idx.of_toInt (by omega)) ⟨by rw [List.length_map]; omega, by rw [List.length_map]; omega⟩ hls hW hr
    (by rw [← hD]; simp only [cpl, List.map_append, List.map_take, List.map_drop]) next
theorem W.cloneS {a : Addr} {wa : Bool} {ad : String} {ty : FieldType} {l : List Int32} {idx : Nat} (Wt B : Nat) (hd : decode bytes pc = .ok (.invokevirtual idx, 3))
    (w1 : (Cond.methodLink own idx ⟨ad, "clone", "()Ljava/lang/Object;"⟩).before a0 Z = true) (w2 : (Cond.sameMethod ad "java/lang/Object" "clone" "()Ljava/lang/Object;").before a0 Z = true) (w3 : (Cond.native ⟨"java/lang/Object", "clone", "()Ljava/lang/Object;"⟩).before a0 Z = true)
    (w4 : (Cond.instanceMethod ⟨"java/lang/Object", "clone", "()Ljava/lang/Object;"⟩).before a0 Z = true) (w5 : (Cond.selects ad ⟨ad, "clone", "()Ljava/lang/Object;"⟩ ⟨"java/lang/Object", "clone", "()Ljava/lang/Object;"⟩).before a0 Z = true) (w6 : (Cond.castable ad "java/lang/Cloneable").before a0 Z = true)
    (hm : (a, wa, .inr (ad, ty, l.map Value.int)) ∈ D) (hne : ad ≠ "") (hN : l.length ≤ B) (hls : ls.size = ml) (hW : (st.map fun v => v.category).sum = Wt) (hr : (1 ≤ R.frames ∧ Wt + 14 ≤ R.locals) ∧ k + 1 ≤ R.cells ∧ n + B ≤ R.slots)
    (next : ∀ b, W Z EL R own nm bytes ml ret Q ((b, true, .inr (ad, ty, l.map Value.int)) :: D) (k + 1) (n + B) (pc + 3) ls (.ref b :: st)) : W Z EL R own nm bytes ml ret Q D k n pc ls (.ref a :: st) :=
  W.clone Wt l.length hd w1 w2 w3 w4 w5 w6 hm hne (List.length_map ..) hls hW ⟨hr.1, hr.2.1, by omega⟩ (fun b => W.mono (Nat.le_refl _) (by omega) (next b))
theorem len_cpl {l1 l2 : List Int32} {s d n : Nat} (hs : s + n ≤ l1.length) (hd : d + n ≤ l2.length) : (cpl l1 s l2 d n).length = l2.length := by
  simp [cpl]; omega
def put (l : List Int32) (n : Nat) (c : List Int32) (s m : Nat) : List Int32 := l.take n ++ ((c.drop s).take m).map (fun x => x.toInt8.toInt32) ++ l.drop (n + m)
end Lists
end Jvm.Wk
namespace Jvm.Wk
open Jvm Jvm.ClassFile Sem Op Lib Bundle Jvm.Free Jvm.Stand Jvm.LawKit Jvm.RoadKit
abbrev lm (l : List Int32) : List Value := l.map Value.int
theorem len_q {l : List Int32} {z : Int32} {k : Nat} (h : l.length = k) (hz : z.toInt = (k : Int)) : (l.length : Int) = z.toInt := by omega
theorem len_rep {z : Int32} (h : 0 ≤ z.toInt) : ((List.replicate z.toInt.toNat (0 : Int32)).length : Int) = z.toInt := by rw [List.length_replicate]; omega
theorem len_set {l : List Int32} {z v : Int32} {j : Nat} (h : (l.length : Int) = z.toInt) : ((List.set l j v).length : Int) = z.toInt := by rw [List.length_set]; exact h
theorem len_cplI {l1 l2 : List Int32} {s d n na nb : Int32} (h1 : (l1.length : Int) = na.toInt) (h2 : (l2.length : Int) = nb.toInt) (hb : 0 ≤ s.toInt ∧ 0 ≤ d.toInt ∧ 0 ≤ n.toInt ∧ s.toInt + n.toInt ≤ na.toInt ∧ d.toInt + n.toInt ≤ nb.toInt) :
    ((cpl l1 s.toInt.toNat l2 d.toInt.toNat n.toInt.toNat).length : Int) = nb.toInt := by
  rw [len_cpl (by omega) (by omega)]; exact h2
theorem sel_b {l : List Int32} {lo hi : Int} (h : ∀ x ∈ l, lo ≤ x.toInt ∧ x.toInt ≤ hi) (h0 : lo ≤ 0 ∧ 0 ≤ hi) (j : Int32) : lo ≤ (sel j l).toInt ∧ (sel j l).toInt ≤ hi := by
  unfold sel
  rw [List.getD_eq_getElem?_getD]
  by_cases hj : j.toInt.toNat < l.length
  · rw [List.getElem?_eq_getElem hj]; exact h _ (List.getElem_mem hj)
  · rw [List.getElem?_eq_none (by omega)]
    have e : (0 : Int32).toInt = 0 := by decide
    show lo ≤ (0 : Int32).toInt ∧ (0 : Int32).toInt ≤ hi
    rw [e]; exact h0
theorem bl3 {a b c : Int32} {lo hi : Int} (ha : lo ≤ a.toInt ∧ a.toInt ≤ hi) (hb : lo ≤ b.toInt ∧ b.toInt ≤ hi) (hc : lo ≤ c.toInt ∧ c.toInt ≤ hi) : ∀ x ∈ [a, b, c], lo ≤ x.toInt ∧ x.toInt ≤ hi := by
  intro x hx
  simp only [List.mem_cons, List.not_mem_nil, or_false] at hx
  rcases hx with rfl | rfl | rfl <;> assumption
end Jvm.Wk
namespace Jvm.Wk
open Jvm Jvm.ClassFile Sem Op Lib Bundle Jvm.Free Jvm.Stand Jvm.LawKit Jvm.RoadKit
def dc (k : Nat) (l : List Int32) (i : Nat) : Int32 := if k = 0 then l.getD i 0 &&& 255 else (l.getD (2 * i) 0 &&& 255) ||| ((l.getD (2 * i + 1) 0 &&& 255) <<< ((8 : Int32) &&& 31))
def App (k : Nat) (l : List Int32) (n k' : Nat) (l' c : List Int32) (s m : Nat) : Prop := (∀ i, i < n → dc k' l' i = dc k l i) ∧ (∀ i, i < m → dc k' l' (n + i) = c.getD (s + i) 0)
def Inf (l g : List Int32) (m : Nat) : Prop := ∀ i, i < m → dc 1 g i = dc 0 l i
theorem dc0 (l : List Int32) (i : Nat) : dc 0 l i = l.getD i 0 &&& 255 := rfl
theorem dc1 (l : List Int32) (i : Nat) : dc 1 l i = (l.getD (2 * i) 0 &&& 255) ||| ((l.getD (2 * i + 1) 0 &&& 255) <<< ((8 : Int32) &&& 31)) := rfl
theorem getD_set_eq {l : List Int32} {i : Nat} {v : Int32} (h : i < l.length) : (List.set l i v).getD i 0 = v := by
  rw [List.getD_eq_getElem?_getD, List.getElem?_set_self h]; rfl
theorem getD_set_ne {l : List Int32} {i j : Nat} {v : Int32} (h : i ≠ j) : (List.set l i v).getD j 0 = l.getD j 0 := by
  rw [List.getD_eq_getElem?_getD, List.getD_eq_getElem?_getD, List.getElem?_set_ne h]
theorem app_zero (k : Nat) (l : List Int32) (n : Nat) (c : List Int32) (s : Nat) : App k l n k l c s 0 := ⟨fun _ _ => rfl, fun i h => absurd h (Nat.not_lt_zero i)⟩
theorem app_step0 {l g c : List Int32} {n s m : Nat} {ch : Int32} (h : App 0 l n 0 g c s m) (hl : n + m < g.length) (hc : c.getD (s + m) 0 = ch) (hb : 0 ≤ ch.toInt ∧ ch.toInt ≤ 255) : App 0 l n 0 (List.set g (n + m) ch.toInt8.toInt32) c s (m + 1) := by
  constructor
  · intro i hi
    rw [← h.1 i hi, dc0, dc0, getD_set_ne (by omega)]
  · intro i hi
    by_cases e : i = m
    · subst e
      rw [dc0, getD_set_eq hl, hc, z_b255 hb]
    · rw [← h.2 i (by omega), dc0, dc0, getD_set_ne (by omega)]
theorem z_u16 {x : Int32} (h : 0 ≤ x.toInt ∧ x.toInt ≤ 65535) : (x.toInt8.toInt32 &&& 255) ||| (((x >>> ((8 : Int32) &&& 31)).toInt8.toInt32 &&& 255) <<< ((8 : Int32) &&& 31)) = x :=
  z_or8 h (by have := a_i2b x; have := a_and x.toInt8.toInt32 255 8 256 (by decide) (by decide) (by decide); omega)
    (by have := a_shr x 8 8 256 (by decide) (by decide); have := a_i2b (x >>> ((8 : Int32) &&& 31)); have := a_and (x >>> ((8 : Int32) &&& 31)).toInt8.toInt32 255 8 256 (by decide) (by decide) (by decide)
        have := a_shl ((x >>> ((8 : Int32) &&& 31)).toInt8.toInt32 &&& 255) 8 8 256 (by decide) (by decide); omega)
theorem dc_set2 {g : List Int32} {p : Nat} {ch : Int32} (hl : 2 * p + 1 < g.length) (hb : 0 ≤ ch.toInt ∧ ch.toInt ≤ 65535) : dc 1 (List.set (List.set g (2 * p) ch.toInt8.toInt32) (2 * p + 1) (ch >>> ((8 : Int32) &&& 31)).toInt8.toInt32) p = ch := by
  rw [dc1, getD_set_ne (by omega), getD_set_eq (by omega), getD_set_eq (by rw [List.length_set]; omega)]
  exact z_u16 hb
theorem dc_set2_ne {g : List Int32} {p i : Nat} {x y : Int32} (h : i ≠ p) : dc 1 (List.set (List.set g (2 * p) x) (2 * p + 1) y) i = dc 1 g i := by
  rw [dc1, dc1, getD_set_ne (by omega), getD_set_ne (by omega), getD_set_ne (by omega), getD_set_ne (by omega)]
theorem app_step1 {l g c : List Int32} {n s m : Nat} {ch : Int32} (h : App 1 l n 1 g c s m) (hl : 2 * (n + m) + 1 < g.length) (hc : c.getD (s + m) 0 = ch) (hb : 0 ≤ ch.toInt ∧ ch.toInt ≤ 65535) : App 1 l n 1 (List.set (List.set g (2 * (n + m)) ch.toInt8.toInt32) (2 * (n + m) + 1) (ch >>> ((8 : Int32) &&& 31)).toInt8.toInt32) c s (m + 1) := by
  constructor
  · intro i hi
    rw [← h.1 i hi, dc_set2_ne (by omega)]
  · intro i hi
    by_cases e : i = m
    · subst e
      rw [dc_set2 hl hb, hc]
    · rw [← h.2 i (by omega), dc_set2_ne (by omega)]
theorem inf_zero (l g : List Int32) : Inf l g 0 := fun i h => absurd h (Nat.not_lt_zero i)
theorem inf_step {l g : List Int32} {m : Nat} {ch : Int32} (h : Inf l g m) (hl : 2 * m + 1 < g.length) (hc : l.getD m 0 &&& 255 = ch) (hb : 0 ≤ ch.toInt ∧ ch.toInt ≤ 65535) : Inf l (List.set (List.set g (2 * m) ch.toInt8.toInt32) (2 * m + 1) (ch >>> ((8 : Int32) &&& 31)).toInt8.toInt32) (m + 1) := by
  intro i hi
  by_cases e : i = m
  · subst e
    rw [dc_set2 hl hb, dc0, hc]
  · rw [← h i (by omega), dc_set2_ne e]
theorem app_infl {l g g2 g3 c : List Int32} {n s m m2 p q : Nat} (h : App 0 l n 0 g c s m) (h2 : Inf g g2 p) (h3 : App 1 g2 p 1 g3 c q m2) (hp : p = n + m) (hq : q = s + m) : App 0 l n 1 g3 c s (m + m2) := by
  subst hp; subst hq
  constructor
  · intro i hi
    rw [h3.1 i (by omega), h2 i (by omega), h.1 i hi]
  · intro i hi
    by_cases e : i < m
    · rw [h3.1 (n + i) (by omega), h2 (n + i) (by omega), h.2 i e]
    · have := h3.2 (i - m) (by omega)
      have e1 : n + m + (i - m) = n + i := by omega
      have e2 : s + m + (i - m) = s + i := by omega
      rw [e1, e2] at this; exact this
theorem getD_cpl0 {l l2 : List Int32} {N i : Nat} (h : i < N) (h1 : N ≤ l.length) (h2 : N ≤ l2.length) : (cpl l 0 l2 0 N).getD i 0 = l.getD i 0 := by
  unfold cpl
  have e2 : ((l.drop 0).take N).length = N := by simp; omega
  rw [List.getD_eq_getElem?_getD, List.getD_eq_getElem?_getD, List.append_assoc, List.getElem?_append_right (by simp), List.getElem?_append_left (by simp; omega), List.getElem?_take, List.length_take, if_pos (by simp; omega), List.getElem?_drop]
  simp
theorem dc_cpl0 {k : Nat} {l l2 : List Int32} {N i : Nat} (h : (k = 0 ∧ i < N) ∨ (k = 1 ∧ 2 * i + 1 < N)) (h1 : N ≤ l.length) (h2 : N ≤ l2.length) : dc k (cpl l 0 l2 0 N) i = dc k l i := by
  rcases h with ⟨rfl, h⟩ | ⟨rfl, h⟩
  · rw [dc0, dc0, getD_cpl0 h h1 h2]
  · rw [dc1, dc1, getD_cpl0 (by omega) h1 h2, getD_cpl0 h h1 h2]
theorem app_first (k : Nat) (l c : List Int32) (n s : Int32) : App k l n.toInt.toNat k l c s.toInt.toNat (s.toInt - s.toInt).toNat := by rw [Int.sub_self]; exact app_zero ..
theorem app_to {k k' : Nat} {l g c : List Int32} {n s m m' : Nat} (h : App k l n k' g c s m) (e : m = m') : App k l n k' g c s m' := e ▸ h
theorem app_step0I {l g c : List Int32} {n s i i' j N : Int32} (h : App 0 l n.toInt.toNat 0 g c s.toInt.toNat (i.toInt - s.toInt).toNat) (hl : (g.length : Int) = N.toInt) (hb : 0 ≤ (sel i c).toInt ∧ (sel i c).toInt ≤ 255)
    (hh : 0 ≤ n.toInt ∧ 0 ≤ s.toInt ∧ s.toInt ≤ i.toInt ∧ j.toInt + s.toInt = n.toInt + i.toInt ∧ j.toInt < N.toInt ∧ i'.toInt = i.toInt + 1) : App 0 l n.toInt.toNat 0 (List.set g j.toInt.toNat (sel i c).toInt8.toInt32) c s.toInt.toNat (i'.toInt - s.toInt).toNat := by
  have e1 : j.toInt.toNat = n.toInt.toNat + (i.toInt - s.toInt).toNat := by omega
  have e2 : (i'.toInt - s.toInt).toNat = (i.toInt - s.toInt).toNat + 1 := by omega
  have e3 : s.toInt.toNat + (i.toInt - s.toInt).toNat = i.toInt.toNat := by omega
  rw [e1, e2]
  exact app_step0 h (by omega) (by unfold sel; rw [e3]) hb
theorem shl1 (j : Int32) (h : 0 ≤ j.toInt ∧ j.toInt ≤ 1048576) : (j <<< ((1 : Int32) &&& 31)).toInt.toNat = 2 * j.toInt.toNat ∧ ((j <<< ((1 : Int32) &&& 31)) + 1).toInt.toNat = 2 * j.toInt.toNat + 1 := by
  have := a_shl j 1 1 2 (by decide) (by decide)
  have := a_add (j <<< ((1 : Int32) &&& 31)) 1
  have e : (1 : Int32).toInt = 1 := by decide
  constructor <;> omega
theorem app_step1I {l g c : List Int32} {n s i i' j N : Int32} (h : App 1 l n.toInt.toNat 1 g c s.toInt.toNat (i.toInt - s.toInt).toNat) (hl : (g.length : Int) = N.toInt) (hb : 0 ≤ (sel i c).toInt ∧ (sel i c).toInt ≤ 65535)
    (hh : 0 ≤ n.toInt ∧ 0 ≤ s.toInt ∧ s.toInt ≤ i.toInt ∧ j.toInt + s.toInt = n.toInt + i.toInt ∧ 2 * j.toInt + 1 < N.toInt ∧ i'.toInt = i.toInt + 1 ∧ j.toInt ≤ 1048576) :
    App 1 l n.toInt.toNat 1 (List.set (List.set g (j <<< ((1 : Int32) &&& 31)).toInt.toNat (sel i c).toInt8.toInt32) ((j <<< ((1 : Int32) &&& 31)) + 1).toInt.toNat ((sel i c) >>> ((8 : Int32) &&& 31)).toInt8.toInt32) c s.toInt.toNat (i'.toInt - s.toInt).toNat := by
  have e1 : j.toInt.toNat = n.toInt.toNat + (i.toInt - s.toInt).toNat := by omega
  have e2 : (i'.toInt - s.toInt).toNat = (i.toInt - s.toInt).toNat + 1 := by omega
  have e3 : s.toInt.toNat + (i.toInt - s.toInt).toNat = i.toInt.toNat := by omega
  have e4 := shl1 j (by omega)
  rw [e4.1, e4.2, e1, e2]
  exact app_step1 h (by omega) (by unfold sel; rw [e3]) hb
theorem inf_stepI {l g : List Int32} {i i' j p N : Int32} (h : Inf l g i.toInt.toNat) (hl : (g.length : Int) = N.toInt) (hh : 0 ≤ i.toInt ∧ j.toInt = i.toInt ∧ p.toInt = i.toInt ∧ 2 * j.toInt + 1 < N.toInt ∧ i'.toInt = i.toInt + 1 ∧ j.toInt ≤ 1048576) :
    Inf l (List.set (List.set g (j <<< ((1 : Int32) &&& 31)).toInt.toNat (sel p l &&& 255).toInt8.toInt32) ((j <<< ((1 : Int32) &&& 31)) + 1).toInt.toNat ((sel p l &&& 255) >>> ((8 : Int32) &&& 31)).toInt8.toInt32) i'.toInt.toNat := by
  have e1 : j.toInt.toNat = i.toInt.toNat := by omega
  have e2 : i'.toInt.toNat = i.toInt.toNat + 1 := by omega
  have e3 : p.toInt.toNat = i.toInt.toNat := by omega
  have e4 := shl1 j (by omega)
  have e5 := a_and (sel p l) 255 8 256 (by decide) (by decide) (by decide)
  rw [e4.1, e4.2, e1, e2]
  exact inf_step h (by omega) (by unfold sel; rw [e3]) (by omega)
theorem a_or88 (p q : Int32) : ((p &&& 255) ||| ((q &&& 255) <<< ((8 : Int32) &&& 31))).toInt = p.toInt % 256 + q.toInt % 256 * 256 := by
  have h1 := a_and p 255 8 256 (by decide) (by decide) (by decide)
  have h2 := a_and q 255 8 256 (by decide) (by decide) (by decide)
  have h3 := a_shl (q &&& 255) 8 8 256 (by decide) (by decide)
  rw [a_orD _ _ (by omega) (by omega) (by omega)]; omega
theorem cmp0 {r f : List Int32} {i k : Int32} {p : Nat} (h : dc 0 r i.toInt.toNat = f.getD p 0) (e : p = k.toInt.toNat) : (sel i r &&& 255).toInt = (sel k f).toInt := by
  subst e; exact congrArg Int32.toInt h
theorem cmp1 {r f : List Int32} {i k : Int32} {p : Nat} (h : dc 1 r i.toInt.toNat = f.getD p 0) (e : p = k.toInt.toNat) (hi : 0 ≤ i.toInt ∧ i.toInt ≤ 1048576) :
    ((sel (i <<< ((1 : Int32) &&& 31)) r &&& 255) ||| ((sel ((i <<< ((1 : Int32) &&& 31)) + 1) r &&& 255) <<< ((8 : Int32) &&& 31))).toInt = (sel k f).toInt := by
  subst e
  have e4 := shl1 i hi
  unfold sel
  rw [e4.1, e4.2]
  exact congrArg Int32.toInt h
theorem dc_cplI {k : Nat} {l l2 : List Int32} {N i : Nat} (h : (k = 0 ∧ i < N) ∨ (k = 1 ∧ 2 * i + 1 < N)) (h1 : N ≤ l.length) (h2 : N ≤ l2.length) : dc k (cpl l (0 : Int32).toInt.toNat l2 (0 : Int32).toInt.toNat N) i = dc k l i := by
  have e0 : (0 : Int32).toInt.toNat = 0 := by decide
  rw [e0]; exact dc_cpl0 h h1 h2
theorem app_base {k k' : Nat} {l l0 g c : List Int32} {n s m m' : Nat} (hD : ∀ i, i < n → dc k l i = dc k l0 i) (h : App k l n k' g c s m) (e : m = m') : App k l0 n k' g c s m' := e ▸ ⟨fun i hi => (h.1 i hi).trans (hD i hi), h.2⟩
theorem app_in0 {k k' : Nat} {l g c : List Int32} {s m : Nat} (h : App k l (0 : Int32).toInt.toNat k' g c s m) : ∀ i, i < m → dc k' g i = c.getD (s + i) 0 := fun i hi => by
  have := h.2 i hi
  have e0 : (0 : Int32).toInt.toNat = 0 := by decide
  rw [e0, Nat.zero_add] at this; exact this
end Jvm.Wk

namespace Jvm.Pilot.@@N@@
open Jvm Jvm.ClassFile Sem Op Lib Jvm.Free Jvm.Stand Jvm.LawKit Jvm.RoadKit Bundle Jvm.Wk Jvm.Pilot.@@N@@.Jvm.D
abbrev EL : Bool × List (String × Nat) := (false, consts_1)
def csv (Z : State) : Int32 := si Z "java/lang/String" "COMPACT_STRINGS" "Z"
def sfv (Z : State) : Value := sv Z "jdk/internal/util/Preconditions" "SIOOBE_FORMATTER" "Ljava/util/function/BiFunction;"
def ifv (Z : State) : Value := sv Z "jdk/internal/util/Preconditions" "IOOBE_FORMATTER" "Ljava/util/function/BiFunction;"
def og1 (Z : State) : Addr := ta Z (Jvm.Term.static "java/util/ArrayList" "DEFAULTCAPACITY_EMPTY_ELEMENTDATA" "[Ljava/lang/Object;")
def SF (Z : State) : Prop := Sta Z Z.heap "java/lang/String" "COMPACT_STRINGS" "Z" (.int (csv Z)) ∧ (csv Z).toInt ≠ 0 ∧ (sfv Z).isRef = true ∧ Sta Z Z.heap "jdk/internal/util/Preconditions" "SIOOBE_FORMATTER" "Ljava/util/function/BiFunction;" (sfv Z) ∧ (ifv Z).isRef = true ∧ Sta Z Z.heap "jdk/internal/util/Preconditions" "IOOBE_FORMATTER" "Ljava/util/function/BiFunction;" (ifv Z) ∧ Sta Z Z.heap "java/lang/StringUTF16" "$assertionsDisabled" "Z" (.int (1 : Int32)) ∧ Sta Z Z.heap "java/lang/StringUTF16" "HI_BYTE_SHIFT" "I" (.int (0 : Int32)) ∧ Sta Z Z.heap "java/lang/StringUTF16" "LO_BYTE_SHIFT" "I" (.int (8 : Int32)) ∧ Sta Z Z.heap "java/util/ArrayList" "DEFAULTCAPACITY_EMPTY_ELEMENTDATA" "[Ljava/lang/Object;" (.ref (og1 Z)) ∧ True
set_option maxRecDepth 65536
abbrev HW (a0 : Array Value) (Z : State) : Prop := ∀ d ∈ tables_1, d.before a0 Z = true
theorem wq {Z a0} (hw : HW a0 Z) (i : Nat) {d : Jvm.Cond} (h : tables_1[i]? = some d) : d.before a0 Z = true := hw _ (List.mem_of_getElem? h)
abbrev rmm (a b c d : Nat) : Room := { frames := a, cells := b, slots := c, locals := d }
theorem ix3 : Idx (3 : Int32) 3 := by unfold Idx; decide
theorem ix0 : Idx (0 : Int32) 0 := by unfold Idx; decide
theorem q16 : (16 : Int32).toInt = 16 := by decide
theorem aushr_16 (x : Int32) : (XT.ushr x (16 : Int32)).toInt = (x.toInt % 4294967296) / 65536 := a_ushr x 16 16 65536 (by decide) (by decide) (by decide)
theorem ix1 : Idx (1 : Int32) 1 := by unfold Idx; decide
theorem ix2 : Idx (2 : Int32) 2 := by unfold Idx; decide
theorem q4 : (4 : Int32).toInt = 4 := by decide
theorem q2147483647 : (2147483647 : Int32).toInt = 2147483647 := by decide
theorem am_2147483647 (x : Int32) : (x &&& (2147483647 : Int32)).toInt = x.toInt % 2147483648 := a_and x 2147483647 31 2147483648 (by decide) (by decide) (by decide)
theorem arem_4 (x : Int32) : (0 ≤ x.toInt → (x % (4 : Int32)).toInt = x.toInt % 4) ∧ (x.toInt < 0 → (x % (4 : Int32)).toInt = -((-x.toInt) % 4)) := a_rem x 4 4 (by decide) (by decide)
theorem q0 : (0 : Int32).toInt = 0 := by decide
theorem q8 : (8 : Int32).toInt = 8 := by decide
theorem aushr_8 (x : Int32) : (XT.ushr x (8 : Int32)).toInt = (x.toInt % 4294967296) / 256 := a_ushr x 8 8 256 (by decide) (by decide) (by decide)
theorem laXmlElement {Z a0} (hw : HW a0 Z) : LaidAll Z a0 "com/example/montaje/montaje/xml/XmlElement" [("com/example/montaje/montaje/xml/XmlElement", "children", "Ljava/util/List;", .null), ("com/example/montaje/montaje/xml/XmlElement", "namespaceUri", "Ljava/lang/String;", .null), ("com/example/montaje/montaje/xml/XmlElement", "localName", "Ljava/lang/String;", .null), ("com/example/montaje/montaje/xml/XmlElement", "qualifiedName", "Ljava/lang/String;", .null), ("com/example/montaje/montaje/xml/XmlElement", "line", "I", (vi 0)), ("com/example/montaje/montaje/xml/XmlElement", "attributes", "Ljava/util/Map;", .null), ("com/example/montaje/montaje/xml/XmlElement", "namespacedAttributes", "Ljava/util/List;", .null), ("com/example/montaje/montaje/xml/XmlElement", "text", "Ljava/lang/StringBuilder;", .null)] := ⟨⟨Or.inr (wq hw 47 rfl), (.object "java/util/List"), by decide, rfl⟩, ⟨⟨Or.inr (wq hw 49 rfl), (.object "java/lang/String"), by decide, rfl⟩, ⟨⟨Or.inr (wq hw 51 rfl), (.object "java/lang/String"), by decide, rfl⟩, ⟨⟨Or.inr (wq hw 53 rfl), (.object "java/lang/String"), by decide, rfl⟩, ⟨⟨Or.inr (wq hw 55 rfl), .int, by decide, rfl⟩, ⟨⟨Or.inr (wq hw 57 rfl), (.object "java/util/Map"), by decide, rfl⟩, ⟨⟨Or.inr (wq hw 59 rfl), (.object "java/util/List"), by decide, rfl⟩, ⟨⟨Or.inl (wq hw 66 rfl), (.object "java/lang/StringBuilder"), by decide, rfl⟩, trivial⟩⟩⟩⟩⟩⟩⟩⟩
theorem tx_ : (∀ c ∈ ("" : String).toList, c.toNat < 256) ∧ ("" : String).toList.map (fun c => Value.int (Jvm.Lit.byteI c.toNat.toUInt16)) = [] := by decide
theorem wS {Z a0} (hw : HW a0 Z) : ∀ a ∈ Bundle.stringAtoms, a.before a0 Z = true := wS_of (wq hw 6 rfl) (wq hw 7 rfl) (wq hw 8 rfl) (wq hw 9 rfl) (wq hw 10 rfl) (wq hw 11 rfl) (wq hw 12 rfl)
theorem tx_78 : (∀ c ∈ ("x" : String).toList, c.toNat < 256) ∧ ("x" : String).toList.map (fun c => Value.int (Jvm.Lit.byteI c.toNat.toUInt16)) = [(.int (120 : Int32))] := by decide
theorem laArrayList {Z a0} (hw : HW a0 Z) : LaidAll Z a0 "java/util/ArrayList" [("java/util/AbstractList", "modCount", "I", (vi 0)), ("java/util/ArrayList", "elementData", "[Ljava/lang/Object;", .null)] := ⟨⟨Or.inl (wq hw 36 rfl), .int, by decide, rfl⟩, ⟨⟨Or.inl (wq hw 39 rfl), (.array (.object "java/lang/Object")), by decide, rfl⟩, trivial⟩⟩
theorem d1_0 : decode jdk_38_method_2_code 0 = .ok (.aload_n 0, 1) := by decide +kernel
theorem d1_1 : decode jdk_38_method_2_code 1 = .ok (.invokespecial 1, 3) := by decide +kernel
theorem d2_0 : decode jdk_39_method_1_code 0 = .ok (.aload_n 0, 1) := by decide +kernel
theorem d2_1 : decode jdk_39_method_1_code 1 = .ok (.invokespecial 1, 3) := by decide +kernel
theorem d3_0 : decode jdk_22_method_1_code 0 = .ok (.aload_n 0, 1) := by decide +kernel
theorem d3_1 : decode jdk_22_method_1_code 1 = .ok (.invokespecial 1, 3) := by decide +kernel
theorem d3_4 : decode jdk_22_method_1_code 4 = .ok (.return_, 1) := by decide +kernel
abbrev oArrayList (f0 f1 : Value) : Desc := .inl ("java/util/ArrayList", [("java/util/AbstractList", "modCount", "I", f0), ("java/util/ArrayList", "elementData", "[Ljava/lang/Object;", f1)])
abbrev y1 : MethodName := ⟨"java/util/AbstractCollection", "<init>", "()V"⟩
abbrev y1b : ByteArray := jdk_22_method_1_code
abbrev y1r : Option Jvm.ClassFile.FieldType := (Option.none : Option Jvm.ClassFile.FieldType)
theorem c3_init {Z a0} (hw : HW a0 Z) (hs : SF Z) {p1 : Addr} {F : List Ent} : Con Z EL y1 y1b 1 y1r (rmm 1 0 0 12) [(vr p1)] (F) (fun v D' => (v = none ∧ F = D')) := by
  refine Con.of (ls := #[rv p1]) (by decide +kernel) rfl ?_
  refine W.aloadN d3_0 rfl rfl ?_
  refine W.initO 0 d3_1 (wq hw 32 rfl) (wq hw 33 rfl) (wq hw 34 rfl) rfl rfl (by decide) ?_
  exact W.return_ d3_4 rfl (by decide) ⟨rfl, rfl⟩
theorem pd__V : parseMethodDescriptor "()V" = some ⟨[], none⟩ := by decide +kernel
theorem d2_4 : decode jdk_39_method_1_code 4 = .ok (.aload_n 0, 1) := by decide +kernel
theorem d2_5 : decode jdk_39_method_1_code 5 = .ok (.iconst 0, 1) := by decide +kernel
theorem d2_6 : decode jdk_39_method_1_code 6 = .ok (.putfield 7, 3) := by decide +kernel
theorem pfI : parseFieldDescriptor "I" = some .int := by decide
theorem d2_9 : decode jdk_39_method_1_code 9 = .ok (.return_, 1) := by decide +kernel
abbrev y2 : MethodName := ⟨"java/util/AbstractList", "<init>", "()V"⟩
abbrev y2b : ByteArray := jdk_39_method_1_code
abbrev y2r : Option Jvm.ClassFile.FieldType := (Option.none : Option Jvm.ClassFile.FieldType)
theorem c2_init {Z a0} (hw : HW a0 Z) (hs : SF Z) {p1 : Addr} {f_p1_1 : Value} {F : List Ent} : Con Z EL y2 y2b 1 y2r (rmm 2 0 0 24) [(vr p1)] ((p1, true, oArrayList (vi 0) f_p1_1) :: F) (fun v D' => (v = none ∧ (p1, true, oArrayList (vi 0) f_p1_1) :: F = D')) := by
  refine Con.of (ls := #[rv p1]) (by decide +kernel) rfl ?_
  refine W.aloadN d2_0 rfl rfl ?_
  refine W.callI (as := []) 0 [] d2_1 rfl (wq hw 26 rfl) (wq hw 27 rfl) (wq hw 30 rfl) (wq hw 31 rfl) (c3_init hw hs) (by decide) pd__V rfl rfl rfl rfl (by decide) (fun v D' h => ?_)
  obtain ⟨rfl, rfl⟩ := h
  show W _ _ _ _ _ _ _ _ _ _ _ _ 4 _ []
  refine W.aloadN d2_4 rfl rfl ?_
  refine W.iconst (0) d2_5 (by decide) ?_
  refine W.putf (D' := (p1, true, oArrayList (vi 0) f_p1_1) :: F) 0 0 d2_6 (wq hw 35 rfl) Via.refl rfl rfl (Or.inl (wq hw 36 rfl)) (wq hw 15 rfl) pfI rfl rfl rfl ?_
  exact W.return_ d2_9 rfl (by decide) ⟨rfl, rfl⟩
theorem d1_4 : decode jdk_38_method_2_code 4 = .ok (.aload_n 0, 1) := by decide +kernel
theorem d1_5 : decode jdk_38_method_2_code 5 = .ok (.getstatic 39, 3) := by decide +kernel
theorem d1_8 : decode jdk_38_method_2_code 8 = .ok (.putfield 9, 3) := by decide +kernel
theorem pf_Ljava_lang_Object_ : parseFieldDescriptor "[Ljava/lang/Object;" = some (.array (.object "java/lang/Object")) := by decide
theorem d1_11 : decode jdk_38_method_2_code 11 = .ok (.return_, 1) := by decide +kernel
abbrev y3 : MethodName := ⟨"java/util/ArrayList", "<init>", "()V"⟩
abbrev y3b : ByteArray := jdk_38_method_2_code
abbrev y3r : Option Jvm.ClassFile.FieldType := (Option.none : Option Jvm.ClassFile.FieldType)
theorem c1_init {Z a0} (hw : HW a0 Z) (hs : SF Z) {p1 : Addr} {F : List Ent} : Con Z EL y3 y3b 1 y3r (rmm 3 0 0 36) [(vr p1)] ((p1, true, oArrayList (vi 0) .null) :: F) (fun v D' => (v = none ∧ (p1, true, oArrayList (vi 0) (vr (og1 Z))) :: F = D')) := by
  refine Con.of (ls := #[rv p1]) (by decide +kernel) rfl ?_
  refine W.aloadN d1_0 rfl rfl ?_
  refine W.callI (as := []) 0 [] d1_1 rfl (wq hw 20 rfl) (wq hw 21 rfl) (wq hw 24 rfl) (wq hw 25 rfl) (c2_init hw hs) (by decide) pd__V rfl rfl rfl rfl (by decide) (fun v D' h => ?_)
  obtain ⟨rfl, rfl⟩ := h
  show W _ _ _ _ _ _ _ _ _ _ _ _ 4 _ []
  refine W.aloadN d1_4 rfl rfl ?_
  refine W.gets d1_5 (wq hw 37 rfl) Via.refl hs.2.2.2.2.2.2.2.2.2.1 ?_
  refine W.putf (D' := (p1, true, oArrayList (vi 0) (vr (og1 Z))) :: F) 0 1 d1_8 (wq hw 38 rfl) Via.refl rfl rfl (Or.inl (wq hw 39 rfl)) (wq hw 15 rfl) pf_Ljava_lang_Object_ rfl rfl rfl ?_
  exact W.return_ d1_11 rfl (by decide) ⟨rfl, rfl⟩
theorem d5_0 : decode prog_64_method_1_code 0 = .ok (.aload_n 0, 1) := by decide +kernel
theorem d5_1 : decode prog_64_method_1_code 1 = .ok (.invokespecial 1, 3) := by decide +kernel
theorem d5_4 : decode prog_64_method_1_code 4 = .ok (.aload_n 0, 1) := by decide +kernel
theorem d5_5 : decode prog_64_method_1_code 5 = .ok (.new 7, 3) := by decide +kernel
theorem d5_8 : decode prog_64_method_1_code 8 = .ok (.dup, 1) := by decide +kernel
theorem d5_9 : decode prog_64_method_1_code 9 = .ok (.invokespecial 9, 3) := by decide +kernel
theorem d5_12 : decode prog_64_method_1_code 12 = .ok (.putfield 10, 3) := by decide +kernel
theorem pfLjava_util_List_ : parseFieldDescriptor "Ljava/util/List;" = some (.object "java/util/List") := by decide
abbrev oXmlElement (f0 f1 f2 f3 f4 f5 f6 f7 : Value) : Desc := .inl ("com/example/montaje/montaje/xml/XmlElement", [("com/example/montaje/montaje/xml/XmlElement", "children", "Ljava/util/List;", f0), ("com/example/montaje/montaje/xml/XmlElement", "namespaceUri", "Ljava/lang/String;", f1), ("com/example/montaje/montaje/xml/XmlElement", "localName", "Ljava/lang/String;", f2), ("com/example/montaje/montaje/xml/XmlElement", "qualifiedName", "Ljava/lang/String;", f3), ("com/example/montaje/montaje/xml/XmlElement", "line", "I", f4), ("com/example/montaje/montaje/xml/XmlElement", "attributes", "Ljava/util/Map;", f5), ("com/example/montaje/montaje/xml/XmlElement", "namespacedAttributes", "Ljava/util/List;", f6), ("com/example/montaje/montaje/xml/XmlElement", "text", "Ljava/lang/StringBuilder;", f7)])
abbrev oString (f0 f1 : Value) : Desc := .inl ("java/lang/String", [("java/lang/String", "value", "[B", f0), ("java/lang/String", "coder", "B", f1)])
theorem d5_15 : decode prog_64_method_1_code 15 = .ok (.aload_n 0, 1) := by decide +kernel
theorem d5_16 : decode prog_64_method_1_code 16 = .ok (.aload_n 1, 1) := by decide +kernel
theorem d5_17 : decode prog_64_method_1_code 17 = .ok (.putfield 16, 3) := by decide +kernel
theorem pfLjava_lang_String_ : parseFieldDescriptor "Ljava/lang/String;" = some (.object "java/lang/String") := by decide
theorem d5_20 : decode prog_64_method_1_code 20 = .ok (.aload_n 0, 1) := by decide +kernel
theorem d5_21 : decode prog_64_method_1_code 21 = .ok (.aload_n 2, 1) := by decide +kernel
theorem d5_22 : decode prog_64_method_1_code 22 = .ok (.putfield 20, 3) := by decide +kernel
theorem d5_25 : decode prog_64_method_1_code 25 = .ok (.aload_n 0, 1) := by decide +kernel
theorem d5_26 : decode prog_64_method_1_code 26 = .ok (.aload_n 3, 1) := by decide +kernel
theorem d5_27 : decode prog_64_method_1_code 27 = .ok (.putfield 23, 3) := by decide +kernel
theorem d5_30 : decode prog_64_method_1_code 30 = .ok (.aload_n 0, 1) := by decide +kernel
theorem d5_31 : decode prog_64_method_1_code 31 = .ok (.iload 4, 2) := by decide +kernel
theorem d5_33 : decode prog_64_method_1_code 33 = .ok (.putfield 26, 3) := by decide +kernel
theorem d5_36 : decode prog_64_method_1_code 36 = .ok (.aload_n 0, 1) := by decide +kernel
theorem d5_37 : decode prog_64_method_1_code 37 = .ok (.aload 5, 2) := by decide +kernel
theorem d5_39 : decode prog_64_method_1_code 39 = .ok (.putfield 30, 3) := by decide +kernel
theorem pfLjava_util_Map_ : parseFieldDescriptor "Ljava/util/Map;" = some (.object "java/util/Map") := by decide
theorem d5_42 : decode prog_64_method_1_code 42 = .ok (.aload_n 0, 1) := by decide +kernel
theorem d5_43 : decode prog_64_method_1_code 43 = .ok (.aload 6, 2) := by decide +kernel
theorem d5_45 : decode prog_64_method_1_code 45 = .ok (.putfield 34, 3) := by decide +kernel
theorem d5_48 : decode prog_64_method_1_code 48 = .ok (.return_, 1) := by decide +kernel
abbrev y4 : MethodName := ⟨"com/example/montaje/montaje/xml/XmlElement", "<init>", "(Ljava/lang/String;Ljava/lang/String;Ljava/lang/String;ILjava/util/Map;Ljava/util/List;)V"⟩
abbrev y4b : ByteArray := prog_64_method_1_code
abbrev y4r : Option Jvm.ClassFile.FieldType := (Option.none : Option Jvm.ClassFile.FieldType)
theorem c4_init {Z a0} (hw : HW a0 Z) (hs : SF Z) {p1 p2 p3 p4 p5 : Addr} {f_p1_7 : Value} {F : List Ent} : Con Z EL y4 y4b 7 y4r (rmm 4 1 3 50) [(vr p1), (vr p2), (vr p3), (vr p4), (vi 1), .null, (vr p5)] ((p1, true, oXmlElement .null .null .null .null (vi 0) .null .null f_p1_7) :: F) (fun v D' => (∃ a1 : Addr, v = none ∧ (a1, true, oArrayList (vi 0) (vr (og1 Z))) :: (p1, true, oXmlElement (vr a1) (vr p2) (vr p3) (vr p4) (vi 1) .null (vr p5) f_p1_7) :: F = D')) := by
  refine Con.of (ls := #[rv p1, rv p2, rv p3, rv p4, iv 1, .val .null, rv p5]) (by decide +kernel) rfl ?_
  refine W.aloadN d5_0 rfl rfl ?_
  refine W.initO 0 d5_1 (wq hw 43 rfl) (wq hw 33 rfl) (wq hw 34 rfl) rfl rfl (by decide) ?_
  refine W.aloadN d5_4 rfl rfl ?_
  refine W.new d5_5 (wq hw 44 rfl) (wq hw 15 rfl) (wq hw 16 rfl) (laArrayList hw) (by decide) (by decide) (fun a1 => ?_)
  show W _ _ _ _ _ _ _ _ _ _ _ _ 8 _ [(vr a1), (vr p1)]
  refine W.dup d5_8 rfl ?_
  refine W.callI (as := []) 2 [(vr a1), (vr p1)] d5_9 rfl (wq hw 45 rfl) (wq hw 18 rfl) (wq hw 16 rfl) (wq hw 19 rfl) (c1_init hw hs) (by decide) pd__V rfl rfl rfl rfl (by decide) (fun v D' h => ?_)
  obtain ⟨rfl, rfl⟩ := h
  show W _ _ _ _ _ _ _ _ _ _ _ _ 12 _ [(vr a1), (vr p1)]
  refine W.putf (D' := (a1, true, oArrayList (vi 0) (vr (og1 Z))) :: (p1, true, oXmlElement (vr a1) .null .null .null (vi 0) .null .null f_p1_7) :: F) 1 0 d5_12 (wq hw 46 rfl) Via.refl rfl rfl (Or.inr ⟨(wq hw 47 rfl), rfl, rfl⟩) (wq hw 3 rfl) pfLjava_util_List_ rfl rfl rfl ?_
  refine W.aloadN d5_15 rfl rfl ?_
  refine W.aloadN d5_16 rfl rfl ?_
  refine W.putf (D' := (a1, true, oArrayList (vi 0) (vr (og1 Z))) :: (p1, true, oXmlElement (vr a1) (vr p2) .null .null (vi 0) .null .null f_p1_7) :: F) 1 1 d5_17 (wq hw 48 rfl) Via.refl rfl rfl (Or.inr ⟨(wq hw 49 rfl), rfl, rfl⟩) (wq hw 3 rfl) pfLjava_lang_String_ rfl rfl rfl ?_
  refine W.aloadN d5_20 rfl rfl ?_
  refine W.aloadN d5_21 rfl rfl ?_
  refine W.putf (D' := (a1, true, oArrayList (vi 0) (vr (og1 Z))) :: (p1, true, oXmlElement (vr a1) (vr p2) (vr p3) .null (vi 0) .null .null f_p1_7) :: F) 1 2 d5_22 (wq hw 50 rfl) Via.refl rfl rfl (Or.inr ⟨(wq hw 51 rfl), rfl, rfl⟩) (wq hw 3 rfl) pfLjava_lang_String_ rfl rfl rfl ?_
  refine W.aloadN d5_25 rfl rfl ?_
  refine W.aloadN d5_26 rfl rfl ?_
  refine W.putf (D' := (a1, true, oArrayList (vi 0) (vr (og1 Z))) :: (p1, true, oXmlElement (vr a1) (vr p2) (vr p3) (vr p4) (vi 0) .null .null f_p1_7) :: F) 1 3 d5_27 (wq hw 52 rfl) Via.refl rfl rfl (Or.inr ⟨(wq hw 53 rfl), rfl, rfl⟩) (wq hw 3 rfl) pfLjava_lang_String_ rfl rfl rfl ?_
  refine W.aloadN d5_30 rfl rfl ?_
  refine W.iload d5_31 rfl ?_
  refine W.putf (D' := (a1, true, oArrayList (vi 0) (vr (og1 Z))) :: (p1, true, oXmlElement (vr a1) (vr p2) (vr p3) (vr p4) (vi 1) .null .null f_p1_7) :: F) 1 4 d5_33 (wq hw 54 rfl) Via.refl rfl rfl (Or.inr ⟨(wq hw 55 rfl), rfl, rfl⟩) (wq hw 3 rfl) pfI rfl rfl rfl ?_
  refine W.aloadN d5_36 rfl rfl ?_
  refine W.aload 5 d5_37 rfl rfl ?_
  refine W.putf (D' := (a1, true, oArrayList (vi 0) (vr (og1 Z))) :: (p1, true, oXmlElement (vr a1) (vr p2) (vr p3) (vr p4) (vi 1) .null .null f_p1_7) :: F) 1 5 d5_39 (wq hw 56 rfl) Via.refl rfl rfl (Or.inr ⟨(wq hw 57 rfl), rfl, rfl⟩) (wq hw 3 rfl) pfLjava_util_Map_ rfl rfl rfl ?_
  refine W.aloadN d5_42 rfl rfl ?_
  refine W.aload 6 d5_43 rfl rfl ?_
  refine W.putf (D' := (a1, true, oArrayList (vi 0) (vr (og1 Z))) :: (p1, true, oXmlElement (vr a1) (vr p2) (vr p3) (vr p4) (vi 1) .null (vr p5) f_p1_7) :: F) 1 6 d5_45 (wq hw 58 rfl) Via.refl rfl rfl (Or.inr ⟨(wq hw 59 rfl), rfl, rfl⟩) (wq hw 3 rfl) pfLjava_util_List_ rfl rfl rfl ?_
  exact W.return_ d5_48 rfl (by decide) ⟨a1, rfl, rfl⟩
theorem pd_Ljava_lang_String_Ljava_lang_String_Ljava_lang_String_ILjava_util_Map_Ljava_util_List__V : parseMethodDescriptor "(Ljava/lang/String;Ljava/lang/String;Ljava/lang/String;ILjava/util/Map;Ljava/util/List;)V" = some ⟨[(.object "java/lang/String"), (.object "java/lang/String"), (.object "java/lang/String"), .int, (.object "java/util/Map"), (.object "java/util/List")], none⟩ := by decide +kernel
theorem d6_0 : decode prog_64_method_10_code 0 = .ok (.aload_n 0, 1) := by decide +kernel
theorem d6_1 : decode prog_64_method_10_code 1 = .ok (.getfield 55, 3) := by decide +kernel
theorem d6_4 : decode prog_64_method_10_code 4 = .ok (.ifnonnull 8, 3) := by decide +kernel
theorem d6_7 : decode prog_64_method_10_code 7 = .ok (.ldc 59, 2) := by decide +kernel
theorem d6_9 : decode prog_64_method_10_code 9 = .ok (.goto 10, 3) := by decide +kernel
theorem d6_19 : decode prog_64_method_10_code 19 = .ok (.areturn, 1) := by decide +kernel
abbrev y5 : MethodName := ⟨"com/example/montaje/montaje/xml/XmlElement", "text", "()Ljava/lang/String;"⟩
abbrev y5b : ByteArray := prog_64_method_10_code
abbrev y5r : Option Jvm.ClassFile.FieldType := (Option.some (Jvm.ClassFile.FieldType.object "java/lang/String"))
theorem c5_text {Z a0} (hw : HW a0 Z) (hs : SF Z) {p1 : Addr} {f_p1_0 f_p1_1 f_p1_2 f_p1_3 f_p1_4 f_p1_5 f_p1_6 : Value} {w_p1 : Bool} {F : List Ent} (mp1 : (p1, w_p1, oXmlElement f_p1_0 f_p1_1 f_p1_2 f_p1_3 f_p1_4 f_p1_5 f_p1_6 .null) ∈ F) : Con Z EL y5 y5b 1 y5r (rmm 0 2 4 0) [(vr p1)] (F) (fun v D' => (∃ a1 a2 : Addr, v = some (vr a1) ∧ (a1, false, oString (vr a2) (vi 0)) :: (a2, false, ar "" .byte []) :: F = D')) := by
  refine Con.of (ls := #[rv p1]) (by decide +kernel) rfl ?_
  refine W.aloadN d6_0 rfl rfl ?_
  refine W.getf d6_1 (wq hw 65 rfl) Via.refl mp1 m7 ?_
  refine W.ifnonnullN d6_4 ?_
  refine W.ldcT 0 (vs := []) rfl d6_7 (wq hw 67 rfl) (wS hw) m0 tx_ (by decide) (by decide) (by decide) (fun a1 a2 => ?_)
  show W _ _ _ _ _ _ _ _ _ _ _ _ 9 _ [(vr a1)]
  refine W.goto 19 d6_9 (by decide) ?_
  exact W.areturn d6_19 rfl rfl rfl (by decide) ⟨a1, a2, rfl, rfl⟩
theorem pd__Ljava_lang_String_ : parseMethodDescriptor "()Ljava/lang/String;" = some ⟨[], some (.object "java/lang/String")⟩ := by decide +kernel
theorem d7_0 : decode jdk_42_method_54_code 0 = .ok (.aload_n 0, 1) := by decide +kernel
theorem d7_1 : decode jdk_42_method_54_code 1 = .ok (.getfield 9, 3) := by decide +kernel
theorem d7_4 : decode jdk_42_method_54_code 4 = .ok (.arraylength, 1) := by decide +kernel
theorem d7_5 : decode jdk_42_method_54_code 5 = .ok (.aload_n 0, 1) := by decide +kernel
theorem d7_6 : decode jdk_42_method_54_code 6 = .ok (.invokevirtual 335, 3) := by decide +kernel
theorem d8_0 : decode jdk_42_method_152_code 0 = .ok (.getstatic 38, 3) := by decide +kernel
theorem d8_3 : decode jdk_42_method_152_code 3 = .ok (.ifCond .eq 10, 3) := by decide +kernel
theorem d8_6 : decode jdk_42_method_152_code 6 = .ok (.aload_n 0, 1) := by decide +kernel
theorem d8_7 : decode jdk_42_method_152_code 7 = .ok (.getfield 15, 3) := by decide +kernel
theorem d8_10 : decode jdk_42_method_152_code 10 = .ok (.goto 4, 3) := by decide +kernel
theorem d8_14 : decode jdk_42_method_152_code 14 = .ok (.ireturn, 1) := by decide +kernel
abbrev y6 : MethodName := ⟨"java/lang/String", "coder", "()B"⟩
abbrev y6b : ByteArray := jdk_42_method_152_code
abbrev y6r : Option Jvm.ClassFile.FieldType := (Option.some Jvm.ClassFile.FieldType.byte)
theorem c7_coder {Z a0} (hw : HW a0 Z) (hs : SF Z) {p1 : Addr} {f_p1_0 : Value} {w_p1 : Bool} {F : List Ent} (mp1 : (p1, w_p1, oString f_p1_0 (vi 0)) ∈ F) : Con Z EL y6 y6b 1 y6r (rmm 0 0 0 0) [(vr p1)] (F) (fun v D' => (v = some (vi 0) ∧ F = D')) := by
  refine Con.of (ls := #[rv p1]) (by decide +kernel) rfl ?_
  refine W.gets d8_0 (wq hw 79 rfl) Via.refl hs.1 ?_
  refine W.ifN d8_3 (n_eq (by have := hs.2.1; have := q0; omega)) ?_
  refine W.aloadN d8_6 rfl rfl ?_
  refine W.getf d8_7 (wq hw 80 rfl) Via.refl mp1 m1 ?_
  refine W.goto 14 d8_10 (by decide) ?_
  exact W.ireturn d8_14 rfl (Or.inr (Or.inr (Or.inl rfl))) (nw_byte (by decide)) (by decide) ⟨rfl, rfl⟩
theorem pd__B : parseMethodDescriptor "()B" = some ⟨[], some .byte⟩ := by decide +kernel
theorem d7_9 : decode jdk_42_method_54_code 9 = .ok (.ishr, 1) := by decide +kernel
theorem d7_10 : decode jdk_42_method_54_code 10 = .ok (.ireturn, 1) := by decide +kernel
abbrev y7 : MethodName := ⟨"java/lang/String", "length", "()I"⟩
abbrev y7b : ByteArray := jdk_42_method_54_code
abbrev y7r : Option Jvm.ClassFile.FieldType := (Option.some Jvm.ClassFile.FieldType.int)
theorem c6_length {Z a0} (hw : HW a0 Z) (hs : SF Z) {p1 p2 : Addr} {w_p1 : Bool} {w_p2 : Bool} {ad_p2 : String} {F : List Ent} (mp1 : (p1, w_p1, oString (vr p2) (vi 0)) ∈ F) (mp2 : (p2, w_p2, ar ad_p2 .byte []) ∈ F) : Con Z EL y7 y7b 1 y7r (rmm 1 0 0 13) [(vr p1)] (F) (fun v D' => (v = some (vi 0) ∧ F = D')) := by
  refine Con.of (ls := #[rv p1]) (by decide +kernel) rfl ?_
  refine W.aloadN d7_0 rfl rfl ?_
  refine W.getf d7_1 (wq hw 73 rfl) Via.refl mp1 m0 ?_
  refine W.alen (0) d7_4 mp2 rfl ?_
  refine W.aloadN d7_5 rfl rfl ?_
  refine W.callV (as := []) 1 [(vi 0)] d7_6 (wq hw 74 rfl) (wq hw 75 rfl) (wq hw 77 rfl) (wq hw 77 rfl) (wq hw 76 rfl) (wq hw 6 rfl) (wq hw 78 rfl) (Hp.exa mp1) (c7_coder hw hs (mp1 := mp1)) (by decide) pd__B rfl rfl rfl rfl (by decide) (fun v D' h => ?_)
  obtain ⟨rfl, rfl⟩ := h
  show W _ _ _ _ _ _ _ _ _ _ _ _ 9 _ [(vi 0), (vi 0)]
  refine W.ishrK (0 : Int32) d7_9 (by decide) ?_
  exact W.ireturn d7_10 rfl (Or.inl rfl) rfl (by decide) ⟨rfl, rfl⟩
theorem pd__I : parseMethodDescriptor "()I" = some ⟨[], some .int⟩ := by decide +kernel
theorem d9_0 : decode prog_64_method_12_code 0 = .ok (.aload_n 0, 1) := by decide +kernel
theorem d9_1 : decode prog_64_method_12_code 1 = .ok (.getfield 55, 3) := by decide +kernel
theorem d9_4 : decode prog_64_method_12_code 4 = .ok (.ifnonnull 15, 3) := by decide +kernel
theorem d9_7 : decode prog_64_method_12_code 7 = .ok (.aload_n 0, 1) := by decide +kernel
theorem d9_8 : decode prog_64_method_12_code 8 = .ok (.new 62, 3) := by decide +kernel
theorem laStringBuilder {Z a0} (hw : HW a0 Z) : LaidAll Z a0 "java/lang/StringBuilder" [("java/lang/AbstractStringBuilder", "value", "[B", .null), ("java/lang/AbstractStringBuilder", "coder", "B", (vi 0)), ("java/lang/AbstractStringBuilder", "count", "I", (vi 0)), ("java/lang/AbstractStringBuilder", "maybeLatin1", "Z", (vi 0))] := ⟨⟨Or.inl (wq hw 101 rfl), (.array .byte), by decide, rfl⟩, ⟨⟨Or.inl (wq hw 103 rfl), .byte, by decide, rfl⟩, ⟨⟨Or.inl (wq hw 121 rfl), .int, by decide, rfl⟩, ⟨⟨Or.inl (wq hw 238 rfl), .boolean, by decide, rfl⟩, trivial⟩⟩⟩⟩
theorem d9_11 : decode prog_64_method_12_code 11 = .ok (.dup, 1) := by decide +kernel
theorem d9_12 : decode prog_64_method_12_code 12 = .ok (.iload_n 3, 1) := by decide +kernel
theorem d9_13 : decode prog_64_method_12_code 13 = .ok (.invokespecial 73, 3) := by decide +kernel
theorem d10_0 : decode jdk_67_method_2_code 0 = .ok (.aload_n 0, 1) := by decide +kernel
theorem d10_1 : decode jdk_67_method_2_code 1 = .ok (.iload_n 1, 1) := by decide +kernel
theorem d10_2 : decode jdk_67_method_2_code 2 = .ok (.invokespecial 1, 3) := by decide +kernel
theorem d11_0 : decode jdk_68_method_2_code 0 = .ok (.aload_n 0, 1) := by decide +kernel
theorem d11_1 : decode jdk_68_method_2_code 1 = .ok (.invokespecial 3, 3) := by decide +kernel
theorem d11_4 : decode jdk_68_method_2_code 4 = .ok (.getstatic 18, 3) := by decide +kernel
theorem d11_7 : decode jdk_68_method_2_code 7 = .ok (.ifCond .eq 18, 3) := by decide +kernel
theorem d11_10 : decode jdk_68_method_2_code 10 = .ok (.aload_n 0, 1) := by decide +kernel
theorem d11_11 : decode jdk_68_method_2_code 11 = .ok (.iload_n 1, 1) := by decide +kernel
theorem d11_12 : decode jdk_68_method_2_code 12 = .ok (.newarray .byte, 2) := by decide +kernel
theorem q255 : (255 : Int32).toInt = 255 := by decide
theorem d11_14 : decode jdk_68_method_2_code 14 = .ok (.putfield 15, 3) := by decide +kernel
theorem pf_B : parseFieldDescriptor "[B" = some (.array .byte) := by decide
abbrev oStringBuilder (f0 f1 f2 f3 : Value) : Desc := .inl ("java/lang/StringBuilder", [("java/lang/AbstractStringBuilder", "value", "[B", f0), ("java/lang/AbstractStringBuilder", "coder", "B", f1), ("java/lang/AbstractStringBuilder", "count", "I", f2), ("java/lang/AbstractStringBuilder", "maybeLatin1", "Z", f3)])
theorem d11_17 : decode jdk_68_method_2_code 17 = .ok (.aload_n 0, 1) := by decide +kernel
theorem d11_18 : decode jdk_68_method_2_code 18 = .ok (.iconst 0, 1) := by decide +kernel
theorem d11_19 : decode jdk_68_method_2_code 19 = .ok (.putfield 22, 3) := by decide +kernel
theorem pfB : parseFieldDescriptor "B" = some .byte := by decide
theorem d11_22 : decode jdk_68_method_2_code 22 = .ok (.goto 16, 3) := by decide +kernel
theorem d11_38 : decode jdk_68_method_2_code 38 = .ok (.return_, 1) := by decide +kernel
abbrev y8 : MethodName := ⟨"java/lang/AbstractStringBuilder", "<init>", "(I)V"⟩
abbrev y8b : ByteArray := jdk_68_method_2_code
abbrev y8r : Option Jvm.ClassFile.FieldType := (Option.none : Option Jvm.ClassFile.FieldType)
theorem c10_init {Z a0} (hw : HW a0 Z) (hs : SF Z) {p1 : Addr} {x1 : Int32} (hx1 : 0 ≤ x1.toInt ∧ x1.toInt ≤ 15) {f_p1_2 f_p1_3 : Value} {F : List Ent} : Con Z EL y8 y8b 2 y8r (rmm 1 1 255 12) [(vr p1), (vi x1)] ((p1, true, oStringBuilder .null (vi 0) f_p1_2 f_p1_3) :: F) (fun v D' => (∃ a1 : Addr, (((List.replicate x1.toInt.toNat (0 : Int32))).length : Int) = x1.toInt ∧ v = none ∧ (a1, true, ar "[B" .byte (lm (List.replicate x1.toInt.toNat (0 : Int32)))) :: (p1, true, oStringBuilder (vr a1) (vi 0) f_p1_2 f_p1_3) :: F = D')) := by
  refine Con.of (ls := #[rv p1, iv x1]) (by decide +kernel) rfl ?_
  refine W.aloadN d11_0 rfl rfl ?_
  refine W.initO 0 d11_1 (wq hw 98 rfl) (wq hw 33 rfl) (wq hw 34 rfl) rfl rfl (by decide) ?_
  refine W.gets d11_4 (wq hw 99 rfl) Via.refl hs.1 ?_
  refine W.ifN d11_7 (n_eq (by have := hs.2.1; have := q0; omega)) ?_
  refine W.aloadN d11_10 rfl rfl ?_
  refine W.iloadN d11_11 rfl ?_
  have hl2 := len_rep (z := x1) (by have := q0; omega)
  refine W.newarrB 255 d11_12 (wq hw 8 rfl) (by have := q0; have := q255; omega) (by decide) (by decide) (fun a1 => ?_)
  show W _ _ _ _ _ _ _ _ _ _ _ _ 14 _ [(vr a1), (vr p1)]
  refine W.putf (D' := (a1, true, ar "[B" .byte (lm (List.replicate x1.toInt.toNat (0 : Int32)))) :: (p1, true, oStringBuilder (vr a1) (vi 0) f_p1_2 f_p1_3) :: F) 1 0 d11_14 (wq hw 100 rfl) Via.refl rfl rfl (Or.inl (wq hw 101 rfl)) (wq hw 87 rfl) pf_B rfl rfl rfl ?_
  refine W.aloadN d11_17 rfl rfl ?_
  refine W.iconst (0) d11_18 (by decide) ?_
  refine W.putf (D' := (a1, true, ar "[B" .byte (lm (List.replicate x1.toInt.toNat (0 : Int32)))) :: (p1, true, oStringBuilder (vr a1) (vi 0) f_p1_2 f_p1_3) :: F) 1 1 d11_19 (wq hw 102 rfl) Via.refl rfl rfl (Or.inl (wq hw 103 rfl)) (wq hw 87 rfl) pfB (nw_byte (by decide)) (ft_byte (by decide)) rfl ?_
  refine W.goto 38 d11_22 (by decide) ?_
  exact W.return_ d11_38 rfl (by decide) ⟨a1, hl2, rfl, rfl⟩
theorem pd_I_V : parseMethodDescriptor "(I)V" = some ⟨[.int], none⟩ := by decide +kernel
theorem d10_5 : decode jdk_67_method_2_code 5 = .ok (.return_, 1) := by decide +kernel
abbrev y9 : MethodName := ⟨"java/lang/StringBuilder", "<init>", "(I)V"⟩
abbrev y9b : ByteArray := jdk_67_method_2_code
abbrev y9r : Option Jvm.ClassFile.FieldType := (Option.none : Option Jvm.ClassFile.FieldType)
theorem c9_init {Z a0} (hw : HW a0 Z) (hs : SF Z) {p1 : Addr} {x1 : Int32} (hx1 : 0 ≤ x1.toInt ∧ x1.toInt ≤ 15) {f_p1_2 f_p1_3 : Value} {F : List Ent} : Con Z EL y9 y9b 2 y9r (rmm 2 1 255 25) [(vr p1), (vi x1)] ((p1, true, oStringBuilder .null (vi 0) f_p1_2 f_p1_3) :: F) (fun v D' => (∃ a1 : Addr, (((List.replicate x1.toInt.toNat (0 : Int32))).length : Int) = x1.toInt ∧ v = none ∧ (a1, true, ar "[B" .byte (lm (List.replicate x1.toInt.toNat (0 : Int32)))) :: (p1, true, oStringBuilder (vr a1) (vi 0) f_p1_2 f_p1_3) :: F = D')) := by
  refine Con.of (ls := #[rv p1, iv x1]) (by decide +kernel) rfl ?_
  refine W.aloadN d10_0 rfl rfl ?_
  refine W.iloadN d10_1 rfl ?_
  refine W.callI (as := [(vi x1)]) 0 [] d10_2 rfl (wq hw 92 rfl) (wq hw 93 rfl) (wq hw 96 rfl) (wq hw 97 rfl) (c10_init hw hs (hx1 := hx1)) (by decide) pd_I_V rfl rfl rfl rfl (by decide) (fun v D' h => ?_)
  obtain ⟨a1, hl2, rfl, rfl⟩ := h
  show W _ _ _ _ _ _ _ _ _ _ _ _ 5 _ []
  exact W.return_ d10_5 rfl (by decide) ⟨a1, hl2, rfl, rfl⟩
theorem q3 : (3 : Int32).toInt = 3 := by decide
theorem d9_16 : decode prog_64_method_12_code 16 = .ok (.putfield 55, 3) := by decide +kernel
theorem pfLjava_lang_StringBuilder_ : parseFieldDescriptor "Ljava/lang/StringBuilder;" = some (.object "java/lang/StringBuilder") := by decide
theorem d9_19 : decode prog_64_method_12_code 19 = .ok (.aload_n 0, 1) := by decide +kernel
theorem d9_20 : decode prog_64_method_12_code 20 = .ok (.getfield 55, 3) := by decide +kernel
theorem d9_23 : decode prog_64_method_12_code 23 = .ok (.aload_n 1, 1) := by decide +kernel
theorem d9_24 : decode prog_64_method_12_code 24 = .ok (.iload_n 2, 1) := by decide +kernel
theorem d9_25 : decode prog_64_method_12_code 25 = .ok (.iload_n 3, 1) := by decide +kernel
theorem d9_26 : decode prog_64_method_12_code 26 = .ok (.invokevirtual 76, 3) := by decide +kernel
theorem d12_0 : decode jdk_67_method_12_code 0 = .ok (.aload_n 0, 1) := by decide +kernel
theorem d12_1 : decode jdk_67_method_12_code 1 = .ok (.aload_n 1, 1) := by decide +kernel
theorem d12_2 : decode jdk_67_method_12_code 2 = .ok (.iload_n 2, 1) := by decide +kernel
theorem d12_3 : decode jdk_67_method_12_code 3 = .ok (.iload_n 3, 1) := by decide +kernel
theorem d12_4 : decode jdk_67_method_12_code 4 = .ok (.invokespecial 44, 3) := by decide +kernel
theorem d13_0 : decode jdk_68_method_29_code 0 = .ok (.iload_n 2, 1) := by decide +kernel
theorem d13_1 : decode jdk_68_method_29_code 1 = .ok (.iload_n 3, 1) := by decide +kernel
theorem d13_2 : decode jdk_68_method_29_code 2 = .ok (.iadd, 1) := by decide +kernel
theorem d13_3 : decode jdk_68_method_29_code 3 = .ok (.istore 4, 2) := by decide +kernel
theorem d13_5 : decode jdk_68_method_29_code 5 = .ok (.iload_n 2, 1) := by decide +kernel
theorem d13_6 : decode jdk_68_method_29_code 6 = .ok (.iload 4, 2) := by decide +kernel
theorem d13_8 : decode jdk_68_method_29_code 8 = .ok (.aload_n 1, 1) := by decide +kernel
theorem d13_9 : decode jdk_68_method_29_code 9 = .ok (.arraylength, 1) := by decide +kernel
theorem d13_10 : decode jdk_68_method_29_code 10 = .ok (.getstatic 183, 3) := by decide +kernel
theorem d13_13 : decode jdk_68_method_29_code 13 = .ok (.invokestatic 161, 3) := by decide +kernel
theorem d14_0 : decode jdk_41_method_12_code 0 = .ok (.iload_n 0, 1) := by decide +kernel
theorem d14_1 : decode jdk_41_method_12_code 1 = .ok (.ifCond .lt 13, 3) := by decide +kernel
theorem d14_4 : decode jdk_41_method_12_code 4 = .ok (.iload_n 0, 1) := by decide +kernel
theorem d14_5 : decode jdk_41_method_12_code 5 = .ok (.iload_n 1, 1) := by decide +kernel
theorem d14_6 : decode jdk_41_method_12_code 6 = .ok (.if_icmp .gt 8, 3) := by decide +kernel
theorem d14_9 : decode jdk_41_method_12_code 9 = .ok (.iload_n 1, 1) := by decide +kernel
theorem d14_10 : decode jdk_41_method_12_code 10 = .ok (.iload_n 2, 1) := by decide +kernel
theorem d14_11 : decode jdk_41_method_12_code 11 = .ok (.if_icmp .le 11, 3) := by decide +kernel
theorem d14_22 : decode jdk_41_method_12_code 22 = .ok (.iload_n 0, 1) := by decide +kernel
theorem d14_23 : decode jdk_41_method_12_code 23 = .ok (.ireturn, 1) := by decide +kernel
abbrev y10 : MethodName := ⟨"jdk/internal/util/Preconditions", "checkFromToIndex", "(IIILjava/util/function/BiFunction;)I"⟩
abbrev y10b : ByteArray := jdk_41_method_12_code
abbrev y10r : Option Jvm.ClassFile.FieldType := (Option.some Jvm.ClassFile.FieldType.int)
theorem c13_checkFromToIndex {Z a0} (hw : HW a0 Z) (hs : SF Z) {x1 : Int32} (hx1 : 0 ≤ x1.toInt ∧ x1.toInt ≤ 15) {x2 : Int32} (hx2 : 0 ≤ x2.toInt ∧ x2.toInt ≤ 15) {x3 : Int32} (hx3 : 0 ≤ x3.toInt ∧ x3.toInt ≤ 127) (hr0 : (0 : Int32).toInt ≤ x1.toInt) (hr1 : x1.toInt ≤ x2.toInt) (hr2 : x2.toInt ≤ x3.toInt) {F : List Ent} : Con Z EL y10 y10b 4 y10r (rmm 0 0 0 0) [(vi x1), (vi x2), (vi x3), (ifv Z)] (F) (fun v D' => (v = some (vi x1) ∧ F = D')) := by
  refine Con.of (ls := #[iv x1, iv x2, iv x3, .val (ifv Z)]) (by decide +kernel) (hent_of (ld1 rfl (ld1 rfl (ld1 rfl (ld1 (XT.cat1 hs.2.2.2.2.1) ld0)))) rfl) ?_
  refine W.iloadN d14_0 rfl ?_
  refine W.ifN d14_1 (n_lt (by have := q0; omega)) ?_
  refine W.iloadN d14_4 rfl ?_
  refine W.iloadN d14_5 rfl ?_
  refine W.icmpN d14_6 (n_gt (by have := q0; omega)) ?_
  refine W.iloadN d14_9 rfl ?_
  refine W.iloadN d14_10 rfl ?_
  refine W.icmpY 22 d14_11 (y_le (by have := q0; omega)) (by decide) ?_
  refine W.iloadN d14_22 rfl ?_
  exact W.ireturn d14_23 rfl (Or.inl rfl) rfl (by decide) ⟨rfl, rfl⟩
theorem pd_IIILjava_util_function_BiFunction__I : parseMethodDescriptor "(IIILjava/util/function/BiFunction;)I" = some ⟨[.int, .int, .int, (.object "java/util/function/BiFunction")], some .int⟩ := by decide +kernel
theorem d13_16 : decode jdk_68_method_29_code 16 = .ok (.pop, 1) := by decide +kernel
theorem d13_17 : decode jdk_68_method_29_code 17 = .ok (.aload_n 0, 1) := by decide +kernel
theorem d13_18 : decode jdk_68_method_29_code 18 = .ok (.aload_n 0, 1) := by decide +kernel
theorem d13_19 : decode jdk_68_method_29_code 19 = .ok (.getfield 79, 3) := by decide +kernel
theorem d13_22 : decode jdk_68_method_29_code 22 = .ok (.iload_n 3, 1) := by decide +kernel
theorem d13_23 : decode jdk_68_method_29_code 23 = .ok (.iadd, 1) := by decide +kernel
theorem d13_24 : decode jdk_68_method_29_code 24 = .ok (.invokevirtual 100, 3) := by decide +kernel
theorem d15_0 : decode jdk_68_method_9_code 0 = .ok (.aload_n 0, 1) := by decide +kernel
theorem d15_1 : decode jdk_68_method_9_code 1 = .ok (.getfield 15, 3) := by decide +kernel
theorem d15_4 : decode jdk_68_method_9_code 4 = .ok (.arraylength, 1) := by decide +kernel
theorem d15_5 : decode jdk_68_method_9_code 5 = .ok (.aload_n 0, 1) := by decide +kernel
theorem d15_6 : decode jdk_68_method_9_code 6 = .ok (.getfield 22, 3) := by decide +kernel
theorem d15_9 : decode jdk_68_method_9_code 9 = .ok (.ishr, 1) := by decide +kernel
theorem d15_10 : decode jdk_68_method_9_code 10 = .ok (.istore_n 2, 1) := by decide +kernel
theorem d15_11 : decode jdk_68_method_9_code 11 = .ok (.iload_n 1, 1) := by decide +kernel
theorem d15_12 : decode jdk_68_method_9_code 12 = .ok (.iload_n 2, 1) := by decide +kernel
theorem d15_13 : decode jdk_68_method_9_code 13 = .ok (.isub, 1) := by decide +kernel
theorem d15_14 : decode jdk_68_method_9_code 14 = .ok (.ifCond .le 24, 3) := by decide +kernel
theorem d15_38 : decode jdk_68_method_9_code 38 = .ok (.return_, 1) := by decide +kernel
theorem d15_17 : decode jdk_68_method_9_code 17 = .ok (.aload_n 0, 1) := by decide +kernel
theorem d15_18 : decode jdk_68_method_9_code 18 = .ok (.aload_n 0, 1) := by decide +kernel
theorem d15_19 : decode jdk_68_method_9_code 19 = .ok (.getfield 15, 3) := by decide +kernel
theorem d15_22 : decode jdk_68_method_9_code 22 = .ok (.aload_n 0, 1) := by decide +kernel
theorem d15_23 : decode jdk_68_method_9_code 23 = .ok (.iload_n 1, 1) := by decide +kernel
theorem d15_24 : decode jdk_68_method_9_code 24 = .ok (.invokevirtual 104, 3) := by decide +kernel
theorem d49_0 : decode jdk_68_method_10_code 0 = .ok (.aload_n 0, 1) := by decide +kernel
theorem d49_1 : decode jdk_68_method_10_code 1 = .ok (.getfield 15, 3) := by decide +kernel
theorem d49_4 : decode jdk_68_method_10_code 4 = .ok (.arraylength, 1) := by decide +kernel
theorem d49_5 : decode jdk_68_method_10_code 5 = .ok (.istore_n 2, 1) := by decide +kernel
theorem d49_6 : decode jdk_68_method_10_code 6 = .ok (.iload_n 1, 1) := by decide +kernel
theorem d49_7 : decode jdk_68_method_10_code 7 = .ok (.aload_n 0, 1) := by decide +kernel
theorem d49_8 : decode jdk_68_method_10_code 8 = .ok (.getfield 22, 3) := by decide +kernel
theorem d49_11 : decode jdk_68_method_10_code 11 = .ok (.ishl, 1) := by decide +kernel
theorem d49_12 : decode jdk_68_method_10_code 12 = .ok (.istore_n 3, 1) := by decide +kernel
theorem d49_13 : decode jdk_68_method_10_code 13 = .ok (.iload_n 3, 1) := by decide +kernel
theorem d49_14 : decode jdk_68_method_10_code 14 = .ok (.iload_n 2, 1) := by decide +kernel
theorem d49_15 : decode jdk_68_method_10_code 15 = .ok (.isub, 1) := by decide +kernel
theorem d49_16 : decode jdk_68_method_10_code 16 = .ok (.istore 4, 2) := by decide +kernel
theorem d49_18 : decode jdk_68_method_10_code 18 = .ok (.iload_n 2, 1) := by decide +kernel
theorem d49_19 : decode jdk_68_method_10_code 19 = .ok (.iload 4, 2) := by decide +kernel
theorem d49_21 : decode jdk_68_method_10_code 21 = .ok (.iload_n 2, 1) := by decide +kernel
theorem d49_22 : decode jdk_68_method_10_code 22 = .ok (.iconst 2, 1) := by decide +kernel
theorem d49_23 : decode jdk_68_method_10_code 23 = .ok (.aload_n 0, 1) := by decide +kernel
theorem d49_24 : decode jdk_68_method_10_code 24 = .ok (.getfield 22, 3) := by decide +kernel
theorem d49_27 : decode jdk_68_method_10_code 27 = .ok (.ishl, 1) := by decide +kernel
theorem d49_28 : decode jdk_68_method_10_code 28 = .ok (.iadd, 1) := by decide +kernel
theorem d49_29 : decode jdk_68_method_10_code 29 = .ok (.invokestatic 114, 3) := by decide +kernel
theorem d50_0 : decode jdk_48_method_27_code 0 = .ok (.iload_n 0, 1) := by decide +kernel
theorem d50_1 : decode jdk_48_method_27_code 1 = .ok (.iload_n 1, 1) := by decide +kernel
theorem d50_2 : decode jdk_48_method_27_code 2 = .ok (.iload_n 2, 1) := by decide +kernel
theorem d50_3 : decode jdk_48_method_27_code 3 = .ok (.invokestatic 194, 3) := by decide +kernel
theorem d51_0 : decode jdk_29_method_65_code 0 = .ok (.iload_n 0, 1) := by decide +kernel
theorem d51_1 : decode jdk_29_method_65_code 1 = .ok (.iload_n 1, 1) := by decide +kernel
theorem d51_2 : decode jdk_29_method_65_code 2 = .ok (.if_icmp .lt 7, 3) := by decide +kernel
theorem d51_9 : decode jdk_29_method_65_code 9 = .ok (.iload_n 1, 1) := by decide +kernel
theorem d51_10 : decode jdk_29_method_65_code 10 = .ok (.ireturn, 1) := by decide +kernel
theorem d51_5 : decode jdk_29_method_65_code 5 = .ok (.iload_n 0, 1) := by decide +kernel
theorem d51_6 : decode jdk_29_method_65_code 6 = .ok (.goto 4, 3) := by decide +kernel
abbrev y11 : MethodName := ⟨"java/lang/Math", "max", "(II)I"⟩
abbrev y11b : ByteArray := jdk_29_method_65_code
abbrev y11r : Option Jvm.ClassFile.FieldType := (Option.some Jvm.ClassFile.FieldType.int)
theorem c17_max {Z a0} (hw : HW a0 Z) (hs : SF Z) {x1 : Int32} (hx1 : 0 ≤ x1.toInt ∧ x1.toInt ≤ 7) {x2 : Int32} (hx2 : 0 ≤ x2.toInt ∧ x2.toInt ≤ 7) {F : List Ent} : Con Z EL y11 y11b 2 y11r (rmm 0 0 0 0) [(vi x1), (vi (x2 + (2 : Int32)))] (F) (fun v D' => (Cd .lt x1 (x2 + (2 : Int32)) ∧ v = some (vi (x2 + (2 : Int32))) ∧ F = D') ∨ (¬ Cd .lt x1 (x2 + (2 : Int32)) ∧ v = some (vi x1) ∧ F = D')) := by
  refine Con.of (ls := #[iv x1, iv (x2 + (2 : Int32))]) (by decide +kernel) rfl ?_
  refine W.iloadN d51_0 rfl ?_
  refine W.iloadN d51_1 rfl ?_
  refine W.icmp 9 d51_2 (by decide) (fun h1 => ?_) (fun h1 => ?_)
  ·
   have ih1 := t_lt h1
   refine W.iloadN d51_9 rfl ?_
   exact W.ireturn d51_10 rfl (Or.inl rfl) rfl (by decide) (Or.inl ⟨h1, rfl, rfl⟩)
  ·
   have ih1 := f_lt h1
   refine W.iloadN d51_5 rfl ?_
   refine W.goto 10 d51_6 (by decide) ?_
   exact W.ireturn d51_10 rfl (Or.inl rfl) rfl (by decide) (Or.inr ⟨h1, rfl, rfl⟩)
theorem pd_II_I : parseMethodDescriptor "(II)I" = some ⟨[.int, .int], some .int⟩ := by decide +kernel
theorem d50_6 : decode jdk_48_method_27_code 6 = .ok (.iadd, 1) := by decide +kernel
theorem d50_7 : decode jdk_48_method_27_code 7 = .ok (.istore_n 3, 1) := by decide +kernel
theorem d50_8 : decode jdk_48_method_27_code 8 = .ok (.iconst 0, 1) := by decide +kernel
theorem d50_9 : decode jdk_48_method_27_code 9 = .ok (.iload_n 3, 1) := by decide +kernel
theorem d50_10 : decode jdk_48_method_27_code 10 = .ok (.if_icmp .ge 11, 3) := by decide +kernel
theorem q2 : (2 : Int32).toInt = 2 := by decide
theorem d50_13 : decode jdk_48_method_27_code 13 = .ok (.iload_n 3, 1) := by decide +kernel
theorem d50_14 : decode jdk_48_method_27_code 14 = .ok (.ldc 200, 2) := by decide +kernel
theorem d50_16 : decode jdk_48_method_27_code 16 = .ok (.if_icmp .gt 5, 3) := by decide +kernel
theorem q2147483639 : (2147483639 : Int32).toInt = 2147483639 := by decide
theorem d50_19 : decode jdk_48_method_27_code 19 = .ok (.iload_n 3, 1) := by decide +kernel
theorem d50_20 : decode jdk_48_method_27_code 20 = .ok (.ireturn, 1) := by decide +kernel
abbrev y12 : MethodName := ⟨"jdk/internal/util/ArraysSupport", "newLength", "(III)I"⟩
abbrev y12b : ByteArray := jdk_48_method_27_code
abbrev y12r : Option Jvm.ClassFile.FieldType := (Option.some Jvm.ClassFile.FieldType.int)
theorem c16_newLength {Z a0} (hw : HW a0 Z) (hs : SF Z) {x1 : Int32} (hx1 : 0 ≤ x1.toInt ∧ x1.toInt ≤ 7) {x2 : Int32} (hx2 : 0 ≤ x2.toInt ∧ x2.toInt ≤ 7) {F : List Ent} : Con Z EL y12 y12b 4 y12r (rmm 1 0 0 14) [(vi x1), (vi x2), (vi (x1 + (2 : Int32)))] (F) (fun v D' => (Cd .lt x2 (x1 + (2 : Int32)) ∧ v = some (vi (x1 + (x1 + (2 : Int32)))) ∧ F = D') ∨ (¬ Cd .lt x2 (x1 + (2 : Int32)) ∧ v = some (vi (x1 + x2)) ∧ F = D')) := by
  refine Con.of (ls := #[iv x1, iv x2, iv (x1 + (2 : Int32)), uu]) (by decide +kernel) rfl ?_
  refine W.iloadN d50_0 rfl ?_
  refine W.iloadN d50_1 rfl ?_
  refine W.iloadN d50_2 rfl ?_
  refine W.callS (as := [(vi x2), (vi (x1 + (2 : Int32)))]) 1 [(vi x1)] d50_3 (wq hw 277 rfl) (wq hw 278 rfl) (wq hw 279 rfl) (wq hw 280 rfl) (c17_max hw hs (hx1 := hx2) (hx2 := hx1)) (by decide) pd_II_I rfl rfl rfl rfl (by decide) (fun v D' h => ?_)
  rcases h with ⟨h1, rfl, rfl⟩ | ⟨h2, rfl, rfl⟩
  ·
   have ih1 := t_lt h1
   show W _ _ _ _ _ _ _ _ _ _ _ _ 6 _ [(vi (x1 + (2 : Int32))), (vi x1)]
   refine W.iadd d50_6 ?_
   refine W.istoreN (ls' := #[iv x1, iv x2, iv (x1 + (2 : Int32)), iv (x1 + (x1 + (2 : Int32)))]) d50_7 rfl ?_
   refine W.iconst (0) d50_8 (by decide) ?_
   refine W.iloadN d50_9 rfl ?_
   refine W.icmpN d50_10 (n_ge (by have := q0; have := q2; have := a_add x1 (2 : Int32); have := a_add x1 (x1 + (2 : Int32)); omega)) ?_
   refine W.iloadN d50_13 rfl ?_
   refine W.ldcI d50_14 (wq hw 281 rfl) ?_
   refine W.icmpN d50_16 (n_gt (by have := q2; have := a_add x1 (2 : Int32); have := a_add x1 (x1 + (2 : Int32)); have := q2147483639; omega)) ?_
   refine W.iloadN d50_19 rfl ?_
   exact W.ireturn d50_20 rfl (Or.inl rfl) rfl (by decide) (Or.inl ⟨h1, rfl, rfl⟩)
  ·
   have ih2 := f_lt h2
   show W _ _ _ _ _ _ _ _ _ _ _ _ 6 _ [(vi x2), (vi x1)]
   refine W.iadd d50_6 ?_
   refine W.istoreN (ls' := #[iv x1, iv x2, iv (x1 + (2 : Int32)), iv (x1 + x2)]) d50_7 rfl ?_
   refine W.iconst (0) d50_8 (by decide) ?_
   refine W.iloadN d50_9 rfl ?_
   refine W.icmpN d50_10 (n_ge (by have := q0; have := a_add x1 x2; have := q2; have := a_add x1 (2 : Int32); omega)) ?_
   refine W.iloadN d50_13 rfl ?_
   refine W.ldcI d50_14 (wq hw 281 rfl) ?_
   refine W.icmpN d50_16 (n_gt (by have := a_add x1 x2; have := q2147483639; have := q2; have := a_add x1 (2 : Int32); omega)) ?_
   refine W.iloadN d50_19 rfl ?_
   exact W.ireturn d50_20 rfl (Or.inl rfl) rfl (by decide) (Or.inr ⟨h2, rfl, rfl⟩)
theorem pd_III_I : parseMethodDescriptor "(III)I" = some ⟨[.int, .int, .int], some .int⟩ := by decide +kernel
theorem d49_32 : decode jdk_68_method_10_code 32 = .ok (.istore 5, 2) := by decide +kernel
theorem d49_34 : decode jdk_68_method_10_code 34 = .ok (.iload 5, 2) := by decide +kernel
theorem d49_36 : decode jdk_68_method_10_code 36 = .ok (.ldc 39, 2) := by decide +kernel
theorem d49_38 : decode jdk_68_method_10_code 38 = .ok (.if_icmp .ne 13, 3) := by decide +kernel
theorem d49_51 : decode jdk_68_method_10_code 51 = .ok (.iload 5, 2) := by decide +kernel
theorem d49_53 : decode jdk_68_method_10_code 53 = .ok (.aload_n 0, 1) := by decide +kernel
theorem d49_54 : decode jdk_68_method_10_code 54 = .ok (.getfield 22, 3) := by decide +kernel
theorem d49_57 : decode jdk_68_method_10_code 57 = .ok (.ishr, 1) := by decide +kernel
theorem d49_58 : decode jdk_68_method_10_code 58 = .ok (.ireturn, 1) := by decide +kernel
abbrev y13 : MethodName := ⟨"java/lang/AbstractStringBuilder", "newCapacity", "(I)I"⟩
abbrev y13b : ByteArray := jdk_68_method_10_code
abbrev y13r : Option Jvm.ClassFile.FieldType := (Option.some Jvm.ClassFile.FieldType.int)
theorem c15_newCapacity {Z a0} (hw : HW a0 Z) (hs : SF Z) {p1 p2 : Addr} {x1 : Int32} (hx1 : 0 ≤ x1.toInt ∧ x1.toInt ≤ 7) {x4 : Int32} (hx4 : 0 ≤ x4.toInt ∧ x4.toInt ≤ 7) {l1 : List Int32} (hl_l1 : (l1.length : Int) = x4.toInt) (hr0 : x4.toInt < x1.toInt) {f_p1_2 f_p1_3 : Value} {w_p1 : Bool} {w_p2 : Bool} {ad_p2 : String} {F : List Ent} (mp1 : (p1, w_p1, oStringBuilder (vr p2) (vi 0) f_p1_2 f_p1_3) ∈ F) (mp2 : (p2, w_p2, ar ad_p2 .byte (lm l1)) ∈ F) : Con Z EL y13 y13b 6 y13r (rmm 2 0 0 29) [(vr p1), (vi x1)] (F) (fun v D' => (Cd .lt (x1 - x4) (x4 + (2 : Int32)) ∧ v = some (vi (x4 + (x4 + (2 : Int32)))) ∧ F = D') ∨ (¬ Cd .lt (x1 - x4) (x4 + (2 : Int32)) ∧ v = some (vi (x4 + (x1 - x4))) ∧ F = D')) := by
  refine Con.of (ls := #[rv p1, iv x1, uu, uu, uu, uu]) (by decide +kernel) rfl ?_
  refine W.aloadN d49_0 rfl rfl ?_
  refine W.getf d49_1 (wq hw 100 rfl) Via.refl mp1 m0 ?_
  refine W.alenS (l := l1) (z := x4) d49_4 mp2 hl_l1 ?_
  refine W.istoreN (ls' := #[rv p1, iv x1, iv x4, uu, uu, uu]) d49_5 rfl ?_
  refine W.iloadN d49_6 rfl ?_
  refine W.aloadN d49_7 rfl rfl ?_
  refine W.getf d49_8 (wq hw 102 rfl) Via.refl mp1 m1 ?_
  refine W.ishlK x1 d49_11 (z_shl0 x1) ?_
  refine W.istoreN (ls' := #[rv p1, iv x1, iv x4, iv x1, uu, uu]) d49_12 rfl ?_
  refine W.iloadN d49_13 rfl ?_
  refine W.iloadN d49_14 rfl ?_
  refine W.isub d49_15 ?_
  refine W.istore (ls' := #[rv p1, iv x1, iv x4, iv x1, iv (x1 - x4), uu]) d49_16 rfl ?_
  refine W.iloadN d49_18 rfl ?_
  refine W.iload d49_19 rfl ?_
  refine W.iloadN d49_21 rfl ?_
  refine W.iconst (2) d49_22 (by decide) ?_
  refine W.aloadN d49_23 rfl rfl ?_
  refine W.getf d49_24 (wq hw 102 rfl) Via.refl mp1 m1 ?_
  refine W.ishlK (2 : Int32) d49_27 (by decide) ?_
  refine W.iadd d49_28 ?_
  refine W.callS (as := [(vi x4), (vi (x1 - x4)), (vi (x4 + (2 : Int32)))]) 0 [] d49_29 (wq hw 273 rfl) (wq hw 274 rfl) (wq hw 275 rfl) (wq hw 276 rfl) (c16_newLength hw hs (hx1 := hx4) (hx2 := (by have := a_sub x1 x4; omega))) (by decide) pd_III_I rfl rfl rfl rfl (by decide) (fun v D' h => ?_)
  rcases h with ⟨h1, rfl, rfl⟩ | ⟨h2, rfl, rfl⟩
  ·
   have ih1 := t_lt h1
   show W _ _ _ _ _ _ _ _ _ _ _ _ 32 _ [(vi (x4 + (x4 + (2 : Int32))))]
   refine W.istore (ls' := #[rv p1, iv x1, iv x4, iv x1, iv (x1 - x4), iv (x4 + (x4 + (2 : Int32)))]) d49_32 rfl ?_
   refine W.iload d49_34 rfl ?_
   refine W.ldcI d49_36 (wq hw 282 rfl) ?_
   refine W.icmpY 51 d49_38 (y_ne (by have := q2; have := a_add x4 (2 : Int32); have := a_add x4 (x4 + (2 : Int32)); have := q2147483647; have := a_sub x1 x4; omega)) (by decide) ?_
   refine W.iload d49_51 rfl ?_
   refine W.aloadN d49_53 rfl rfl ?_
   refine W.getf d49_54 (wq hw 102 rfl) Via.refl mp1 m1 ?_
   refine W.ishrK (x4 + (x4 + (2 : Int32))) d49_57 (z_shr0 (x4 + (x4 + (2 : Int32)))) ?_
   exact W.ireturn d49_58 rfl (Or.inl rfl) rfl (by decide) (Or.inl ⟨h1, rfl, rfl⟩)
  ·
   have ih2 := f_lt h2
   show W _ _ _ _ _ _ _ _ _ _ _ _ 32 _ [(vi (x4 + (x1 - x4)))]
   refine W.istore (ls' := #[rv p1, iv x1, iv x4, iv x1, iv (x1 - x4), iv (x4 + (x1 - x4))]) d49_32 rfl ?_
   refine W.iload d49_34 rfl ?_
   refine W.ldcI d49_36 (wq hw 282 rfl) ?_
   refine W.icmpY 51 d49_38 (y_ne (by have := a_sub x1 x4; have := a_add x4 (x1 - x4); have := q2147483647; have := q2; have := a_add x4 (2 : Int32); omega)) (by decide) ?_
   refine W.iload d49_51 rfl ?_
   refine W.aloadN d49_53 rfl rfl ?_
   refine W.getf d49_54 (wq hw 102 rfl) Via.refl mp1 m1 ?_
   refine W.ishrK (x4 + (x1 - x4)) d49_57 (z_shr0 (x4 + (x1 - x4))) ?_
   exact W.ireturn d49_58 rfl (Or.inl rfl) rfl (by decide) (Or.inr ⟨h2, rfl, rfl⟩)
theorem pd_I_I : parseMethodDescriptor "(I)I" = some ⟨[.int], some .int⟩ := by decide +kernel
theorem d15_27 : decode jdk_68_method_9_code 27 = .ok (.aload_n 0, 1) := by decide +kernel
theorem d15_28 : decode jdk_68_method_9_code 28 = .ok (.getfield 22, 3) := by decide +kernel
theorem d15_31 : decode jdk_68_method_9_code 31 = .ok (.ishl, 1) := by decide +kernel
theorem d15_32 : decode jdk_68_method_9_code 32 = .ok (.invokestatic 108, 3) := by decide +kernel
theorem d52_0 : decode jdk_65_method_121_code 0 = .ok (.iload_n 1, 1) := by decide +kernel
theorem d52_1 : decode jdk_65_method_121_code 1 = .ok (.aload_n 0, 1) := by decide +kernel
theorem d52_2 : decode jdk_65_method_121_code 2 = .ok (.arraylength, 1) := by decide +kernel
theorem d52_3 : decode jdk_65_method_121_code 3 = .ok (.if_icmp .ne 11, 3) := by decide +kernel
theorem d52_14 : decode jdk_65_method_121_code 14 = .ok (.iload_n 1, 1) := by decide +kernel
theorem d52_15 : decode jdk_65_method_121_code 15 = .ok (.newarray .byte, 2) := by decide +kernel
theorem d52_17 : decode jdk_65_method_121_code 17 = .ok (.astore_n 2, 1) := by decide +kernel
theorem d52_18 : decode jdk_65_method_121_code 18 = .ok (.aload_n 0, 1) := by decide +kernel
theorem d52_19 : decode jdk_65_method_121_code 19 = .ok (.iconst 0, 1) := by decide +kernel
theorem d52_20 : decode jdk_65_method_121_code 20 = .ok (.aload_n 2, 1) := by decide +kernel
theorem d52_21 : decode jdk_65_method_121_code 21 = .ok (.iconst 0, 1) := by decide +kernel
theorem d52_22 : decode jdk_65_method_121_code 22 = .ok (.aload_n 0, 1) := by decide +kernel
theorem d52_23 : decode jdk_65_method_121_code 23 = .ok (.arraylength, 1) := by decide +kernel
theorem d52_24 : decode jdk_65_method_121_code 24 = .ok (.iload_n 1, 1) := by decide +kernel
theorem d52_25 : decode jdk_65_method_121_code 25 = .ok (.invokestatic 304, 3) := by decide +kernel
theorem d53_0 : decode jdk_29_method_69_code 0 = .ok (.iload_n 0, 1) := by decide +kernel
theorem d53_1 : decode jdk_29_method_69_code 1 = .ok (.iload_n 1, 1) := by decide +kernel
theorem d53_2 : decode jdk_29_method_69_code 2 = .ok (.if_icmp .gt 7, 3) := by decide +kernel
theorem d53_9 : decode jdk_29_method_69_code 9 = .ok (.iload_n 1, 1) := by decide +kernel
theorem d53_10 : decode jdk_29_method_69_code 10 = .ok (.ireturn, 1) := by decide +kernel
theorem d53_5 : decode jdk_29_method_69_code 5 = .ok (.iload_n 0, 1) := by decide +kernel
theorem d53_6 : decode jdk_29_method_69_code 6 = .ok (.goto 4, 3) := by decide +kernel
abbrev y14 : MethodName := ⟨"java/lang/Math", "min", "(II)I"⟩
abbrev y14b : ByteArray := jdk_29_method_69_code
abbrev y14r : Option Jvm.ClassFile.FieldType := (Option.some Jvm.ClassFile.FieldType.int)
theorem c19_min {Z a0} (hw : HW a0 Z) (hs : SF Z) {x1 : Int32} (hx1 : 0 ≤ x1.toInt ∧ x1.toInt ≤ 15) {x2 : Int32} (hx2 : 0 ≤ x2.toInt ∧ x2.toInt ≤ 15) {F : List Ent} : Con Z EL y14 y14b 2 y14r (rmm 0 0 0 0) [(vi x1), (vi x2)] (F) (fun v D' => (Cd .gt x1 x2 ∧ v = some (vi x2) ∧ F = D') ∨ (¬ Cd .gt x1 x2 ∧ v = some (vi x1) ∧ F = D')) := by
  refine Con.of (ls := #[iv x1, iv x2]) (by decide +kernel) rfl ?_
  refine W.iloadN d53_0 rfl ?_
  refine W.iloadN d53_1 rfl ?_
  refine W.icmp 9 d53_2 (by decide) (fun h1 => ?_) (fun h1 => ?_)
  ·
   have ih1 := t_gt h1
   refine W.iloadN d53_9 rfl ?_
   exact W.ireturn d53_10 rfl (Or.inl rfl) rfl (by decide) (Or.inl ⟨h1, rfl, rfl⟩)
  ·
   have ih1 := f_gt h1
   refine W.iloadN d53_5 rfl ?_
   refine W.goto 10 d53_6 (by decide) ?_
   exact W.ireturn d53_10 rfl (Or.inl rfl) rfl (by decide) (Or.inr ⟨h1, rfl, rfl⟩)
theorem d52_28 : decode jdk_65_method_121_code 28 = .ok (.invokestatic 150, 3) := by decide +kernel
theorem d52_31 : decode jdk_65_method_121_code 31 = .ok (.aload_n 2, 1) := by decide +kernel
theorem d52_32 : decode jdk_65_method_121_code 32 = .ok (.areturn, 1) := by decide +kernel
abbrev y15 : MethodName := ⟨"java/util/Arrays", "copyOf", "([BI)[B"⟩
abbrev y15b : ByteArray := jdk_65_method_121_code
abbrev y15r : Option Jvm.ClassFile.FieldType := (Option.some (Jvm.ClassFile.FieldType.array Jvm.ClassFile.FieldType.byte))
theorem c18_copyOf {Z a0} (hw : HW a0 Z) (hs : SF Z) {p1 : Addr} {x1 : Int32} (hx1 : 0 ≤ x1.toInt ∧ x1.toInt ≤ 15) {x2 : Int32} (hx2 : 0 ≤ x2.toInt ∧ x2.toInt ≤ 15) {l1 : List Int32} (hl_l1 : (l1.length : Int) = x2.toInt) (hr0 : x2.toInt < x1.toInt) {w_p1 : Bool} {ad_p1 : String} {F : List Ent} (mp1 : (p1, w_p1, ar ad_p1 .byte (lm l1)) ∈ F) : Con Z EL y15 y15b 3 y15r (rmm 1 1 255 48) [(vr p1), (vi x1)] (F) (fun v D' => (∃ a1 : Addr, ¬ Cd .gt x2 x1 ∧ (((cpl l1 (0 : Int32).toInt.toNat (List.replicate x1.toInt.toNat (0 : Int32)) (0 : Int32).toInt.toNat x2.toInt.toNat)).length : Int) = x1.toInt ∧ v = some (vr a1) ∧ (a1, true, ar "[B" .byte (lm (cpl l1 (0 : Int32).toInt.toNat (List.replicate x1.toInt.toNat (0 : Int32)) (0 : Int32).toInt.toNat x2.toInt.toNat))) :: F = D')) := by
  refine Con.of (ls := #[rv p1, iv x1, uu]) (by decide +kernel) rfl ?_
  refine W.iloadN d52_0 rfl ?_
  refine W.aloadN d52_1 rfl rfl ?_
  refine W.alenS (l := l1) (z := x2) d52_2 mp1 hl_l1 ?_
  refine W.icmpY 14 d52_3 (y_ne (by omega)) (by decide) ?_
  refine W.iloadN d52_14 rfl ?_
  have hl2 := len_rep (z := x1) (by have := q0; omega)
  refine W.newarrB 255 d52_15 (wq hw 8 rfl) (by have := q0; have := q255; omega) (by decide) (by decide) (fun a1 => ?_)
  show W _ _ _ _ _ _ _ _ _ _ _ _ 17 _ [(vr a1)]
  refine W.astoreN (ls' := #[rv p1, iv x1, rv a1]) d52_17 rfl rfl ?_
  refine W.aloadN d52_18 rfl rfl ?_
  refine W.iconst (0) d52_19 (by decide) ?_
  refine W.aloadN d52_20 rfl rfl ?_
  refine W.iconst (0) d52_21 (by decide) ?_
  refine W.aloadN d52_22 rfl rfl ?_
  refine W.alenS (l := l1) (z := x2) d52_23 (mS mp1) hl_l1 ?_
  refine W.iloadN d52_24 rfl ?_
  refine W.callS (as := [(vi x2), (vi x1)]) 4 [(vi 0), (vr a1), (vi 0), (vr p1)] d52_25 (wq hw 286 rfl) (wq hw 287 rfl) (wq hw 279 rfl) (wq hw 288 rfl) (c19_min hw hs (hx1 := hx2) (hx2 := hx1)) (by decide) pd_II_I rfl rfl rfl rfl (by decide) (fun v D' h => ?_)
  rcases h with ⟨h1, rfl, rfl⟩ | ⟨h2, rfl, rfl⟩
  ·
   exact absurd h1 (n_gt (by omega))
  ·
   have ih2 := f_gt h2
   show W _ _ _ _ _ _ _ _ _ _ _ _ 28 _ [(vi x2), (vi 0), (vr a1), (vi 0), (vr p1)]
   have hl3 := len_cplI (l1 := l1) (l2 := (List.replicate x1.toInt.toNat (0 : Int32))) (s := (0 : Int32)) (d := (0 : Int32)) (n := x2) hl_l1 hl2 (by have := q0; omega)
   refine W.cpyS (l1 := l1) (l2 := (List.replicate x1.toInt.toNat (0 : Int32))) (D' := (a1, true, ar "[B" .byte (lm (cpl l1 (0 : Int32).toInt.toNat (List.replicate x1.toInt.toNat (0 : Int32)) (0 : Int32).toInt.toNat x2.toInt.toNat))) :: F) 0 0 d52_28 (wq hw 289 rfl) (wq hw 292 rfl) (wq hw 290 rfl) (wq hw 291 rfl) (mS mp1) rfl rfl (by have := hl_l1; have := hl2; have := q0; omega) rfl rfl (by decide) rfl ?_
   refine W.aloadN d52_31 rfl rfl ?_
   exact W.areturn d52_32 rfl rfl rfl (by decide) ⟨a1, h2, hl3, rfl, rfl⟩
theorem pd__BI__B : parseMethodDescriptor "([BI)[B" = some ⟨[(.array .byte), .int], some (.array .byte)⟩ := by decide +kernel
theorem d15_35 : decode jdk_68_method_9_code 35 = .ok (.putfield 15, 3) := by decide +kernel
abbrev y16 : MethodName := ⟨"java/lang/AbstractStringBuilder", "ensureCapacityInternal", "(I)V"⟩
abbrev y16b : ByteArray := jdk_68_method_9_code
abbrev y16r : Option Jvm.ClassFile.FieldType := (Option.none : Option Jvm.ClassFile.FieldType)
theorem c14_ensureCapacityInternal {Z a0} (hw : HW a0 Z) (hs : SF Z) {p1 p2 : Addr} {x1 : Int32} (hx1 : 0 ≤ x1.toInt ∧ x1.toInt ≤ 7) {x4 : Int32} (hx4 : 0 ≤ x4.toInt ∧ x4.toInt ≤ 7) {l1 : List Int32} (hl_l1 : (l1.length : Int) = x4.toInt) {f_p1_2 f_p1_3 : Value} {w_p2 : Bool} {ad_p2 : String} {F : List Ent} (mp2 : (p2, w_p2, ar ad_p2 .byte (lm l1)) ∈ F) : Con Z EL y16 y16b 3 y16r (rmm 3 1 255 63) [(vr p1), (vi x1)] ((p1, true, oStringBuilder (vr p2) (vi 0) f_p1_2 f_p1_3) :: F) (fun v D' => (Cd .le (x1 - x4) (0 : Int32) ∧ v = none ∧ (p1, true, oStringBuilder (vr p2) (vi 0) f_p1_2 f_p1_3) :: F = D') ∨ (∃ a1 : Addr, ¬ Cd .le (x1 - x4) (0 : Int32) ∧ Cd .lt (x1 - x4) (x4 + (2 : Int32)) ∧ ¬ Cd .gt x4 (x4 + (x4 + (2 : Int32))) ∧ (((cpl l1 (0 : Int32).toInt.toNat (List.replicate (x4 + (x4 + (2 : Int32))).toInt.toNat (0 : Int32)) (0 : Int32).toInt.toNat x4.toInt.toNat)).length : Int) = (x4 + (x4 + (2 : Int32))).toInt ∧ v = none ∧ (a1, true, ar "[B" .byte (lm (cpl l1 (0 : Int32).toInt.toNat (List.replicate (x4 + (x4 + (2 : Int32))).toInt.toNat (0 : Int32)) (0 : Int32).toInt.toNat x4.toInt.toNat))) :: (p1, true, oStringBuilder (vr a1) (vi 0) f_p1_2 f_p1_3) :: F = D') ∨ (∃ a3 : Addr, ¬ Cd .le (x1 - x4) (0 : Int32) ∧ ¬ Cd .lt (x1 - x4) (x4 + (2 : Int32)) ∧ ¬ Cd .gt x4 (x4 + (x1 - x4)) ∧ (((cpl l1 (0 : Int32).toInt.toNat (List.replicate (x4 + (x1 - x4)).toInt.toNat (0 : Int32)) (0 : Int32).toInt.toNat x4.toInt.toNat)).length : Int) = (x4 + (x1 - x4)).toInt ∧ v = none ∧ (a3, true, ar "[B" .byte (lm (cpl l1 (0 : Int32).toInt.toNat (List.replicate (x4 + (x1 - x4)).toInt.toNat (0 : Int32)) (0 : Int32).toInt.toNat x4.toInt.toNat))) :: (p1, true, oStringBuilder (vr a3) (vi 0) f_p1_2 f_p1_3) :: F = D')) := by
  refine Con.of (ls := #[rv p1, iv x1, uu]) (by decide +kernel) rfl ?_
  refine W.aloadN d15_0 rfl rfl ?_
  refine W.getf d15_1 (wq hw 100 rfl) Via.refl m0 m0 ?_
  refine W.alenS (l := l1) (z := x4) d15_4 (mS mp2) hl_l1 ?_
  refine W.aloadN d15_5 rfl rfl ?_
  refine W.getf d15_6 (wq hw 102 rfl) Via.refl m0 m1 ?_
  refine W.ishrK x4 d15_9 (z_shr0 x4) ?_
  refine W.istoreN (ls' := #[rv p1, iv x1, iv x4]) d15_10 rfl ?_
  refine W.iloadN d15_11 rfl ?_
  refine W.iloadN d15_12 rfl ?_
  refine W.isub d15_13 ?_
  refine W.if 38 d15_14 (by decide) (fun h1 => ?_) (fun h1 => ?_)
  ·
   have ih1 := t_le h1
   exact W.return_ d15_38 rfl (by decide) (Or.inl ⟨h1, rfl, rfl⟩)
  ·
   have ih1 := f_le h1
   refine W.aloadN d15_17 rfl rfl ?_
   refine W.aloadN d15_18 rfl rfl ?_
   refine W.getf d15_19 (wq hw 100 rfl) Via.refl m0 m0 ?_
   refine W.aloadN d15_22 rfl rfl ?_
   refine W.iloadN d15_23 rfl ?_
   refine W.callP (as := [(vi x1)]) 2 [(vr p2), (vr p1)] d15_24 (wq hw 268 rfl) (wq hw 269 rfl) (wq hw 271 rfl) (wq hw 270 rfl) (wq hw 96 rfl) (wq hw 272 rfl) (Hp.exa m0) (c15_newCapacity hw hs (hx1 := hx1) (hx4 := hx4) (hr0 := by have := q0; have := a_sub x1 x4; omega) (l1 := l1) (hl_l1 := hl_l1) (mp1 := m0) (mp2 := (mS mp2))) (by decide) pd_I_I rfl rfl rfl rfl (by decide) (fun v D' h => ?_)
   rcases h with ⟨h2, rfl, rfl⟩ | ⟨h3, rfl, rfl⟩
   ·
    have ih2 := t_lt h2
    show W _ _ _ _ _ _ _ _ _ _ _ _ 27 _ [(vi (x4 + (x4 + (2 : Int32)))), (vr p2), (vr p1)]
    refine W.aloadN d15_27 rfl rfl ?_
    refine W.getf d15_28 (wq hw 102 rfl) Via.refl m0 m1 ?_
    refine W.ishlK (x4 + (x4 + (2 : Int32))) d15_31 (z_shl0 (x4 + (x4 + (2 : Int32)))) ?_
    refine W.callS (as := [(vr p2), (vi (x4 + (x4 + (2 : Int32))))]) 1 [(vr p1)] d15_32 (wq hw 283 rfl) (wq hw 284 rfl) (wq hw 167 rfl) (wq hw 285 rfl) (c18_copyOf hw hs (hx1 := (by have := q2; have := a_add x4 (2 : Int32); have := a_add x4 (x4 + (2 : Int32)); have := q0; have := a_sub x1 x4; omega)) (hx2 := (by have := q0; have := a_sub x1 x4; have := q2; have := a_add x4 (2 : Int32); omega)) (hr0 := by have := q2; have := a_add x4 (2 : Int32); have := a_add x4 (x4 + (2 : Int32)); have := q0; have := a_sub x1 x4; omega) (l1 := l1) (hl_l1 := hl_l1) (mp1 := (mS mp2))) (by decide) pd__BI__B rfl rfl rfl rfl (by decide) (fun v D' h => ?_)
    obtain ⟨a1, h4, hl2, rfl, rfl⟩ := h
    have ih4 := f_gt h4
    show W _ _ _ _ _ _ _ _ _ _ _ _ 35 _ [(vr a1), (vr p1)]
    refine W.putf (D' := (a1, true, ar "[B" .byte (lm (cpl l1 (0 : Int32).toInt.toNat (List.replicate (x4 + (x4 + (2 : Int32))).toInt.toNat (0 : Int32)) (0 : Int32).toInt.toNat x4.toInt.toNat))) :: (p1, true, oStringBuilder (vr a1) (vi 0) f_p1_2 f_p1_3) :: F) 1 0 d15_35 (wq hw 100 rfl) Via.refl rfl rfl (Or.inl (wq hw 101 rfl)) (wq hw 87 rfl) pf_B rfl rfl rfl ?_
    exact W.return_ d15_38 rfl (by decide) (Or.inr (Or.inl ⟨a1, h1, h2, h4, hl2, rfl, rfl⟩))
   ·
    have ih3 := f_lt h3
    show W _ _ _ _ _ _ _ _ _ _ _ _ 27 _ [(vi (x4 + (x1 - x4))), (vr p2), (vr p1)]
    refine W.aloadN d15_27 rfl rfl ?_
    refine W.getf d15_28 (wq hw 102 rfl) Via.refl m0 m1 ?_
    refine W.ishlK (x4 + (x1 - x4)) d15_31 (z_shl0 (x4 + (x1 - x4))) ?_
    refine W.callS (as := [(vr p2), (vi (x4 + (x1 - x4)))]) 1 [(vr p1)] d15_32 (wq hw 283 rfl) (wq hw 284 rfl) (wq hw 167 rfl) (wq hw 285 rfl) (c18_copyOf hw hs (hx1 := (by have := a_sub x1 x4; have := a_add x4 (x1 - x4); have := q0; have := q2; have := a_add x4 (2 : Int32); omega)) (hx2 := (by have := q0; have := a_sub x1 x4; have := q2; have := a_add x4 (2 : Int32); omega)) (hr0 := by have := a_sub x1 x4; have := a_add x4 (x1 - x4); have := q0; have := q2; have := a_add x4 (2 : Int32); omega) (l1 := l1) (hl_l1 := hl_l1) (mp1 := (mS mp2))) (by decide) pd__BI__B rfl rfl rfl rfl (by decide) (fun v D' h => ?_)
    obtain ⟨a3, h5, hl4, rfl, rfl⟩ := h
    have ih5 := f_gt h5
    show W _ _ _ _ _ _ _ _ _ _ _ _ 35 _ [(vr a3), (vr p1)]
    refine W.putf (D' := (a3, true, ar "[B" .byte (lm (cpl l1 (0 : Int32).toInt.toNat (List.replicate (x4 + (x1 - x4)).toInt.toNat (0 : Int32)) (0 : Int32).toInt.toNat x4.toInt.toNat))) :: (p1, true, oStringBuilder (vr a3) (vi 0) f_p1_2 f_p1_3) :: F) 1 0 d15_35 (wq hw 100 rfl) Via.refl rfl rfl (Or.inl (wq hw 101 rfl)) (wq hw 87 rfl) pf_B rfl rfl rfl ?_
    exact W.return_ d15_38 rfl (by decide) (Or.inr (Or.inr ⟨a3, h1, h3, h5, hl4, rfl, rfl⟩))
theorem d13_27 : decode jdk_68_method_29_code 27 = .ok (.aload_n 0, 1) := by decide +kernel
theorem d13_28 : decode jdk_68_method_29_code 28 = .ok (.aload_n 1, 1) := by decide +kernel
theorem d13_29 : decode jdk_68_method_29_code 29 = .ok (.iload_n 2, 1) := by decide +kernel
theorem d13_30 : decode jdk_68_method_29_code 30 = .ok (.iload 4, 2) := by decide +kernel
theorem d13_32 : decode jdk_68_method_29_code 32 = .ok (.invokevirtual 239, 3) := by decide +kernel
theorem d16_0 : decode jdk_68_method_74_code 0 = .ok (.aload_n 0, 1) := by decide +kernel
theorem d16_1 : decode jdk_68_method_74_code 1 = .ok (.getfield 79, 3) := by decide +kernel
theorem d16_4 : decode jdk_68_method_74_code 4 = .ok (.istore 4, 2) := by decide +kernel
theorem d16_6 : decode jdk_68_method_74_code 6 = .ok (.aload_n 0, 1) := by decide +kernel
theorem d16_7 : decode jdk_68_method_74_code 7 = .ok (.invokevirtual 83, 3) := by decide +kernel
theorem d17_0 : decode jdk_68_method_68_code 0 = .ok (.getstatic 18, 3) := by decide +kernel
theorem d17_3 : decode jdk_68_method_68_code 3 = .ok (.ifCond .eq 14, 3) := by decide +kernel
theorem d17_6 : decode jdk_68_method_68_code 6 = .ok (.aload_n 0, 1) := by decide +kernel
theorem d17_7 : decode jdk_68_method_68_code 7 = .ok (.getfield 22, 3) := by decide +kernel
theorem d17_10 : decode jdk_68_method_68_code 10 = .ok (.ifCond .ne 7, 3) := by decide +kernel
theorem d17_13 : decode jdk_68_method_68_code 13 = .ok (.iconst 1, 1) := by decide +kernel
theorem d17_14 : decode jdk_68_method_68_code 14 = .ok (.goto 4, 3) := by decide +kernel
theorem d17_18 : decode jdk_68_method_68_code 18 = .ok (.ireturn, 1) := by decide +kernel
abbrev y17 : MethodName := ⟨"java/lang/AbstractStringBuilder", "isLatin1", "()Z"⟩
abbrev y17b : ByteArray := jdk_68_method_68_code
abbrev y17r : Option Jvm.ClassFile.FieldType := (Option.some Jvm.ClassFile.FieldType.boolean)
theorem c21_isLatin1 {Z a0} (hw : HW a0 Z) (hs : SF Z) {p1 : Addr} {f_p1_0 f_p1_2 f_p1_3 : Value} {w_p1 : Bool} {F : List Ent} (mp1 : (p1, w_p1, oStringBuilder f_p1_0 (vi 0) f_p1_2 f_p1_3) ∈ F) : Con Z EL y17 y17b 1 y17r (rmm 0 0 0 0) [(vr p1)] (F) (fun v D' => (v = some (vi 1) ∧ F = D')) := by
  refine Con.of (ls := #[rv p1]) (by decide +kernel) rfl ?_
  refine W.gets d17_0 (wq hw 99 rfl) Via.refl hs.1 ?_
  refine W.ifN d17_3 (n_eq (by have := hs.2.1; have := q0; omega)) ?_
  refine W.aloadN d17_6 rfl rfl ?_
  refine W.getf d17_7 (wq hw 102 rfl) Via.refl mp1 m1 ?_
  refine W.ifN d17_10 (n_ne (by decide)) ?_
  refine W.iconst (1) d17_13 (by decide) ?_
  refine W.goto 18 d17_14 (by decide) ?_
  exact W.ireturn d17_18 rfl (Or.inr (Or.inl rfl)) (nw_bool (by decide)) (by decide) ⟨rfl, rfl⟩
theorem pd__Z : parseMethodDescriptor "()Z" = some ⟨[], some .boolean⟩ := by decide +kernel
theorem d16_10 : decode jdk_68_method_74_code 10 = .ok (.ifCond .eq 97, 3) := by decide +kernel
theorem d16_13 : decode jdk_68_method_74_code 13 = .ok (.aload_n 0, 1) := by decide +kernel
theorem d16_14 : decode jdk_68_method_74_code 14 = .ok (.getfield 15, 3) := by decide +kernel
theorem d16_17 : decode jdk_68_method_74_code 17 = .ok (.astore 5, 2) := by decide +kernel
theorem d16_19 : decode jdk_68_method_74_code 19 = .ok (.iload_n 2, 1) := by decide +kernel
theorem d16_20 : decode jdk_68_method_74_code 20 = .ok (.istore 6, 2) := by decide +kernel
theorem d16_22 : decode jdk_68_method_74_code 22 = .ok (.iload 4, 2) := by decide +kernel
theorem d16_24 : decode jdk_68_method_74_code 24 = .ok (.istore 7, 2) := by decide +kernel
theorem d16_26 : decode jdk_68_method_74_code 26 = .ok (.iload 6, 2) := by decide +kernel
theorem d16_28 : decode jdk_68_method_74_code 28 = .ok (.iload_n 3, 1) := by decide +kernel
theorem d16_29 : decode jdk_68_method_74_code 29 = .ok (.if_icmp .ge 75, 3) := by decide +kernel
theorem d16_104 : decode jdk_68_method_74_code 104 = .ok (.goto 15, 3) := by decide +kernel
theorem d16_119 : decode jdk_68_method_74_code 119 = .ok (.aload_n 0, 1) := by decide +kernel
theorem d16_120 : decode jdk_68_method_74_code 120 = .ok (.iload 4, 2) := by decide +kernel
theorem d16_122 : decode jdk_68_method_74_code 122 = .ok (.iload_n 3, 1) := by decide +kernel
theorem d16_123 : decode jdk_68_method_74_code 123 = .ok (.iadd, 1) := by decide +kernel
theorem d16_124 : decode jdk_68_method_74_code 124 = .ok (.iload_n 2, 1) := by decide +kernel
theorem d16_125 : decode jdk_68_method_74_code 125 = .ok (.isub, 1) := by decide +kernel
theorem d16_126 : decode jdk_68_method_74_code 126 = .ok (.putfield 79, 3) := by decide +kernel
theorem d16_129 : decode jdk_68_method_74_code 129 = .ok (.return_, 1) := by decide +kernel
theorem d16_32 : decode jdk_68_method_74_code 32 = .ok (.aload_n 1, 1) := by decide +kernel
theorem d16_33 : decode jdk_68_method_74_code 33 = .ok (.iload 6, 2) := by decide +kernel
theorem d16_35 : decode jdk_68_method_74_code 35 = .ok (.caload, 1) := by decide +kernel
theorem d16_36 : decode jdk_68_method_74_code 36 = .ok (.istore 8, 2) := by decide +kernel
theorem d16_38 : decode jdk_68_method_74_code 38 = .ok (.iload 8, 2) := by decide +kernel
theorem d16_40 : decode jdk_68_method_74_code 40 = .ok (.invokestatic 191, 3) := by decide +kernel
theorem d26_0 : decode jdk_43_method_3_code 0 = .ok (.iload_n 0, 1) := by decide +kernel
theorem d26_1 : decode jdk_43_method_3_code 1 = .ok (.sipush 255, 3) := by decide +kernel
theorem d26_4 : decode jdk_43_method_3_code 4 = .ok (.if_icmp .gt 7, 3) := by decide +kernel
theorem d26_11 : decode jdk_43_method_3_code 11 = .ok (.iconst 0, 1) := by decide +kernel
theorem d26_12 : decode jdk_43_method_3_code 12 = .ok (.ireturn, 1) := by decide +kernel
theorem d26_7 : decode jdk_43_method_3_code 7 = .ok (.iconst 1, 1) := by decide +kernel
theorem d26_8 : decode jdk_43_method_3_code 8 = .ok (.goto 4, 3) := by decide +kernel
abbrev y18 : MethodName := ⟨"java/lang/StringLatin1", "canEncode", "(C)Z"⟩
abbrev y18b : ByteArray := jdk_43_method_3_code
abbrev y18r : Option Jvm.ClassFile.FieldType := (Option.some Jvm.ClassFile.FieldType.boolean)
theorem c22_canEncode {Z a0} (hw : HW a0 Z) (hs : SF Z) {x1 : Int32} (hx1 : 0 ≤ x1.toInt ∧ x1.toInt ≤ 65535) {F : List Ent} : Con Z EL y18 y18b 1 y18r (rmm 0 0 0 0) [(vi x1)] (F) (fun v D' => (Cd .gt x1 (255 : Int32) ∧ v = some (vi 0) ∧ F = D') ∨ (¬ Cd .gt x1 (255 : Int32) ∧ v = some (vi 1) ∧ F = D')) := by
  refine Con.of (ls := #[iv x1]) (by decide +kernel) rfl ?_
  refine W.iloadN d26_0 rfl ?_
  refine W.sipush (255) d26_1 (by decide) ?_
  refine W.icmp 11 d26_4 (by decide) (fun h1 => ?_) (fun h1 => ?_)
  ·
   have ih1 := t_gt h1
   refine W.iconst (0) d26_11 (by decide) ?_
   exact W.ireturn d26_12 rfl (Or.inr (Or.inl rfl)) (nw_bool (by decide)) (by decide) (Or.inl ⟨h1, rfl, rfl⟩)
  ·
   have ih1 := f_gt h1
   refine W.iconst (1) d26_7 (by decide) ?_
   refine W.goto 12 d26_8 (by decide) ?_
   exact W.ireturn d26_12 rfl (Or.inr (Or.inl rfl)) (nw_bool (by decide)) (by decide) (Or.inr ⟨h1, rfl, rfl⟩)
theorem pd_C_Z : parseMethodDescriptor "(C)Z" = some ⟨[.char], some .boolean⟩ := by decide +kernel
theorem d16_43 : decode jdk_68_method_74_code 43 = .ok (.ifCond .eq 17, 3) := by decide +kernel
theorem d16_60 : decode jdk_68_method_74_code 60 = .ok (.aload_n 0, 1) := by decide +kernel
theorem d16_61 : decode jdk_68_method_74_code 61 = .ok (.iload 7, 2) := by decide +kernel
theorem d16_63 : decode jdk_68_method_74_code 63 = .ok (.dup, 1) := by decide +kernel
theorem d16_64 : decode jdk_68_method_74_code 64 = .ok (.istore 4, 2) := by decide +kernel
theorem d16_66 : decode jdk_68_method_74_code 66 = .ok (.putfield 79, 3) := by decide +kernel
theorem d16_69 : decode jdk_68_method_74_code 69 = .ok (.aload_n 0, 1) := by decide +kernel
theorem d16_70 : decode jdk_68_method_74_code 70 = .ok (.invokevirtual 195, 3) := by decide +kernel
theorem d27_0 : decode jdk_68_method_11_code 0 = .ok (.aload_n 0, 1) := by decide +kernel
theorem d27_1 : decode jdk_68_method_11_code 1 = .ok (.invokevirtual 83, 3) := by decide +kernel
theorem d27_4 : decode jdk_68_method_11_code 4 = .ok (.ifCond .ne 4, 3) := by decide +kernel
theorem d27_8 : decode jdk_68_method_11_code 8 = .ok (.aload_n 0, 1) := by decide +kernel
theorem d27_9 : decode jdk_68_method_11_code 9 = .ok (.getfield 15, 3) := by decide +kernel
theorem d27_12 : decode jdk_68_method_11_code 12 = .ok (.arraylength, 1) := by decide +kernel
theorem d27_13 : decode jdk_68_method_11_code 13 = .ok (.invokestatic 26, 3) := by decide +kernel
theorem d28_0 : decode jdk_52_method_2_code 0 = .ok (.iload_n 0, 1) := by decide +kernel
theorem d28_1 : decode jdk_52_method_2_code 1 = .ok (.invokestatic 11, 3) := by decide +kernel
theorem d29_0 : decode jdk_52_method_3_code 0 = .ok (.iload_n 0, 1) := by decide +kernel
theorem d29_1 : decode jdk_52_method_3_code 1 = .ok (.ifCond .ge 11, 3) := by decide +kernel
theorem d29_12 : decode jdk_52_method_3_code 12 = .ok (.iload_n 0, 1) := by decide +kernel
theorem d29_13 : decode jdk_52_method_3_code 13 = .ok (.ldc 20, 2) := by decide +kernel
theorem d29_15 : decode jdk_52_method_3_code 15 = .ok (.if_icmp .lt 40, 3) := by decide +kernel
theorem q1073741823 : (1073741823 : Int32).toInt = 1073741823 := by decide
theorem d29_55 : decode jdk_52_method_3_code 55 = .ok (.iload_n 0, 1) := by decide +kernel
theorem d29_56 : decode jdk_52_method_3_code 56 = .ok (.iconst 1, 1) := by decide +kernel
theorem d29_57 : decode jdk_52_method_3_code 57 = .ok (.ishl, 1) := by decide +kernel
theorem d29_58 : decode jdk_52_method_3_code 58 = .ok (.ireturn, 1) := by decide +kernel
abbrev y19 : MethodName := ⟨"java/lang/StringUTF16", "newBytesLength", "(I)I"⟩
abbrev y19b : ByteArray := jdk_52_method_3_code
abbrev y19r : Option Jvm.ClassFile.FieldType := (Option.some Jvm.ClassFile.FieldType.int)
theorem c25_newBytesLength {Z a0} (hw : HW a0 Z) (hs : SF Z) {x1 : Int32} (hx1 : 0 ≤ x1.toInt ∧ x1.toInt ≤ 127) {F : List Ent} : Con Z EL y19 y19b 1 y19r (rmm 0 0 0 0) [(vi x1)] (F) (fun v D' => (v = some (vi (x1 <<< ((1 : Int32) &&& 31))) ∧ F = D')) := by
  refine Con.of (ls := #[iv x1]) (by decide +kernel) rfl ?_
  refine W.iloadN d29_0 rfl ?_
  refine W.ifY 12 d29_1 (y_ge (by have := q0; omega)) (by decide) ?_
  refine W.iloadN d29_12 rfl ?_
  refine W.ldcI d29_13 (wq hw 198 rfl) ?_
  refine W.icmpY 55 d29_15 (y_lt (by have := q1073741823; omega)) (by decide) ?_
  refine W.iloadN d29_55 rfl ?_
  refine W.iconst (1) d29_56 (by decide) ?_
  refine W.ishl d29_57 ?_
  exact W.ireturn d29_58 rfl (Or.inl rfl) rfl (by decide) ⟨rfl, rfl⟩
theorem d28_4 : decode jdk_52_method_2_code 4 = .ok (.newarray .byte, 2) := by decide +kernel
theorem q1 : (1 : Int32).toInt = 1 := by decide
theorem ashl_1 (x : Int32) : ((x <<< ((1 : Int32) &&& 31)).toInt - x.toInt * 2) % 4294967296 = 0 ∧ -2147483648 ≤ (x <<< ((1 : Int32) &&& 31)).toInt ∧ (x <<< ((1 : Int32) &&& 31)).toInt < 2147483648 := a_shl x 1 1 2 (by decide) (by decide)
theorem d28_6 : decode jdk_52_method_2_code 6 = .ok (.areturn, 1) := by decide +kernel
abbrev y20 : MethodName := ⟨"java/lang/StringUTF16", "newBytesFor", "(I)[B"⟩
abbrev y20b : ByteArray := jdk_52_method_2_code
abbrev y20r : Option Jvm.ClassFile.FieldType := (Option.some (Jvm.ClassFile.FieldType.array Jvm.ClassFile.FieldType.byte))
theorem c24_newBytesFor {Z a0} (hw : HW a0 Z) (hs : SF Z) {x1 : Int32} (hx1 : 0 ≤ x1.toInt ∧ x1.toInt ≤ 127) {F : List Ent} : Con Z EL y20 y20b 1 y20r (rmm 1 1 255 12) [(vi x1)] (F) (fun v D' => (∃ a1 : Addr, (((List.replicate (x1 <<< ((1 : Int32) &&& 31)).toInt.toNat (0 : Int32))).length : Int) = (x1 <<< ((1 : Int32) &&& 31)).toInt ∧ v = some (vr a1) ∧ (a1, true, ar "[B" .byte (lm (List.replicate (x1 <<< ((1 : Int32) &&& 31)).toInt.toNat (0 : Int32)))) :: F = D')) := by
  refine Con.of (ls := #[iv x1]) (by decide +kernel) rfl ?_
  refine W.iloadN d28_0 rfl ?_
  refine W.callS (as := [(vi x1)]) 0 [] d28_1 (wq hw 195 rfl) (wq hw 196 rfl) (wq hw 193 rfl) (wq hw 197 rfl) (c25_newBytesLength hw hs (hx1 := hx1)) (by decide) pd_I_I rfl rfl rfl rfl (by decide) (fun v D' h => ?_)
  obtain ⟨rfl, rfl⟩ := h
  show W _ _ _ _ _ _ _ _ _ _ _ _ 4 _ [(vi (x1 <<< ((1 : Int32) &&& 31)))]
  have hl2 := len_rep (z := (x1 <<< ((1 : Int32) &&& 31))) (by have := q1; have := ashl_1 x1; have := q0; omega)
  refine W.newarrB 255 d28_4 (wq hw 8 rfl) (by have := q1; have := ashl_1 x1; have := q0; have := q255; omega) (by decide) (by decide) (fun a1 => ?_)
  show W _ _ _ _ _ _ _ _ _ _ _ _ 6 _ [(vr a1)]
  exact W.areturn d28_6 rfl rfl rfl (by decide) ⟨a1, hl2, rfl, rfl⟩
theorem pd_I__B : parseMethodDescriptor "(I)[B" = some ⟨[.int], some (.array .byte)⟩ := by decide +kernel
theorem d27_16 : decode jdk_68_method_11_code 16 = .ok (.astore_n 1, 1) := by decide +kernel
theorem d27_17 : decode jdk_68_method_11_code 17 = .ok (.aload_n 0, 1) := by decide +kernel
theorem d27_18 : decode jdk_68_method_11_code 18 = .ok (.getfield 15, 3) := by decide +kernel
theorem d27_21 : decode jdk_68_method_11_code 21 = .ok (.iconst 0, 1) := by decide +kernel
theorem d27_22 : decode jdk_68_method_11_code 22 = .ok (.aload_n 1, 1) := by decide +kernel
theorem d27_23 : decode jdk_68_method_11_code 23 = .ok (.iconst 0, 1) := by decide +kernel
theorem d27_24 : decode jdk_68_method_11_code 24 = .ok (.aload_n 0, 1) := by decide +kernel
theorem d27_25 : decode jdk_68_method_11_code 25 = .ok (.getfield 79, 3) := by decide +kernel
theorem d27_28 : decode jdk_68_method_11_code 28 = .ok (.invokestatic 125, 3) := by decide +kernel
theorem d30_0 : decode jdk_43_method_50_code 0 = .ok (.aload_n 0, 1) := by decide +kernel
theorem d30_1 : decode jdk_43_method_50_code 1 = .ok (.iload_n 1, 1) := by decide +kernel
theorem d30_2 : decode jdk_43_method_50_code 2 = .ok (.aload_n 2, 1) := by decide +kernel
theorem d30_3 : decode jdk_43_method_50_code 3 = .ok (.iload_n 3, 1) := by decide +kernel
theorem d30_4 : decode jdk_43_method_50_code 4 = .ok (.iload 4, 2) := by decide +kernel
theorem d30_6 : decode jdk_43_method_50_code 6 = .ok (.invokestatic 240, 3) := by decide +kernel
theorem d31_0 : decode jdk_52_method_86_code 0 = .ok (.iload_n 3, 1) := by decide +kernel
theorem d31_1 : decode jdk_52_method_86_code 1 = .ok (.iload 4, 2) := by decide +kernel
theorem d31_3 : decode jdk_52_method_86_code 3 = .ok (.aload_n 2, 1) := by decide +kernel
theorem d31_4 : decode jdk_52_method_86_code 4 = .ok (.invokestatic 173, 3) := by decide +kernel
theorem d32_0 : decode jdk_52_method_94_code 0 = .ok (.iload_n 0, 1) := by decide +kernel
theorem d32_1 : decode jdk_52_method_94_code 1 = .ok (.iload_n 1, 1) := by decide +kernel
theorem d32_2 : decode jdk_52_method_94_code 2 = .ok (.aload_n 2, 1) := by decide +kernel
theorem d32_3 : decode jdk_52_method_94_code 3 = .ok (.invokestatic 48, 3) := by decide +kernel
theorem d33_0 : decode jdk_52_method_6_code 0 = .ok (.aload_n 0, 1) := by decide +kernel
theorem d33_1 : decode jdk_52_method_6_code 1 = .ok (.arraylength, 1) := by decide +kernel
theorem d33_2 : decode jdk_52_method_6_code 2 = .ok (.iconst 1, 1) := by decide +kernel
theorem d33_3 : decode jdk_52_method_6_code 3 = .ok (.ishr, 1) := by decide +kernel
theorem d33_4 : decode jdk_52_method_6_code 4 = .ok (.ireturn, 1) := by decide +kernel
abbrev y21 : MethodName := ⟨"java/lang/StringUTF16", "length", "([B)I"⟩
abbrev y21b : ByteArray := jdk_52_method_6_code
abbrev y21r : Option Jvm.ClassFile.FieldType := (Option.some Jvm.ClassFile.FieldType.int)
theorem c29_length {Z a0} (hw : HW a0 Z) (hs : SF Z) {p1 : Addr} {x1 : Int32} (hx1 : 0 ≤ x1.toInt ∧ x1.toInt ≤ 255) {l1 : List Int32} (hl_l1 : (l1.length : Int) = x1.toInt) {w_p1 : Bool} {ad_p1 : String} {F : List Ent} (mp1 : (p1, w_p1, ar ad_p1 .byte (lm l1)) ∈ F) : Con Z EL y21 y21b 1 y21r (rmm 0 0 0 0) [(vr p1)] (F) (fun v D' => (v = some (vi (x1 >>> ((1 : Int32) &&& 31))) ∧ F = D')) := by
  refine Con.of (ls := #[rv p1]) (by decide +kernel) rfl ?_
  refine W.aloadN d33_0 rfl rfl ?_
  refine W.alenS (l := l1) (z := x1) d33_1 mp1 hl_l1 ?_
  refine W.iconst (1) d33_2 (by decide) ?_
  refine W.ishr d33_3 ?_
  exact W.ireturn d33_4 rfl (Or.inl rfl) rfl (by decide) ⟨rfl, rfl⟩
theorem pd__B_I : parseMethodDescriptor "([B)I" = some ⟨[(.array .byte)], some .int⟩ := by decide +kernel
theorem d32_6 : decode jdk_52_method_94_code 6 = .ok (.invokestatic 419, 3) := by decide +kernel
theorem d34_0 : decode jdk_42_method_157_code 0 = .ok (.iload_n 0, 1) := by decide +kernel
theorem d34_1 : decode jdk_42_method_157_code 1 = .ok (.iload_n 1, 1) := by decide +kernel
theorem d34_2 : decode jdk_42_method_157_code 2 = .ok (.iload_n 2, 1) := by decide +kernel
theorem d34_3 : decode jdk_42_method_157_code 3 = .ok (.getstatic 1053, 3) := by decide +kernel
theorem d34_6 : decode jdk_42_method_157_code 6 = .ok (.invokestatic 1065, 3) := by decide +kernel
theorem d35_0 : decode jdk_41_method_13_code 0 = .ok (.iload_n 2, 1) := by decide +kernel
theorem d35_1 : decode jdk_41_method_13_code 1 = .ok (.iload_n 0, 1) := by decide +kernel
theorem d35_2 : decode jdk_41_method_13_code 2 = .ok (.ior, 1) := by decide +kernel
theorem d35_3 : decode jdk_41_method_13_code 3 = .ok (.iload_n 1, 1) := by decide +kernel
theorem d35_4 : decode jdk_41_method_13_code 4 = .ok (.ior, 1) := by decide +kernel
theorem d35_5 : decode jdk_41_method_13_code 5 = .ok (.ifCond .lt 10, 3) := by decide +kernel
theorem d35_8 : decode jdk_41_method_13_code 8 = .ok (.iload_n 1, 1) := by decide +kernel
theorem d35_9 : decode jdk_41_method_13_code 9 = .ok (.iload_n 2, 1) := by decide +kernel
theorem d35_10 : decode jdk_41_method_13_code 10 = .ok (.iload_n 0, 1) := by decide +kernel
theorem d35_11 : decode jdk_41_method_13_code 11 = .ok (.isub, 1) := by decide +kernel
theorem d35_12 : decode jdk_41_method_13_code 12 = .ok (.if_icmp .le 11, 3) := by decide +kernel
theorem d35_23 : decode jdk_41_method_13_code 23 = .ok (.iload_n 0, 1) := by decide +kernel
theorem d35_24 : decode jdk_41_method_13_code 24 = .ok (.ireturn, 1) := by decide +kernel
abbrev y22 : MethodName := ⟨"jdk/internal/util/Preconditions", "checkFromIndexSize", "(IIILjava/util/function/BiFunction;)I"⟩
abbrev y22b : ByteArray := jdk_41_method_13_code
abbrev y22r : Option Jvm.ClassFile.FieldType := (Option.some Jvm.ClassFile.FieldType.int)
theorem c31_checkFromIndexSize {Z a0} (hw : HW a0 Z) (hs : SF Z) {x1 : Int32} (hx1 : 0 ≤ x1.toInt ∧ x1.toInt ≤ 127) {x2 : Int32} (hx2 : 0 ≤ x2.toInt ∧ x2.toInt ≤ 127) {x3 : Int32} (hx3 : 0 ≤ x3.toInt ∧ x3.toInt ≤ 127) (hr0 : (0 : Int32).toInt ≤ x1.toInt) (hr1 : (0 : Int32).toInt ≤ x2.toInt) (hr2 : (x1 + x2).toInt ≤ x3.toInt) {F : List Ent} : Con Z EL y22 y22b 4 y22r (rmm 0 0 0 0) [(vi x1), (vi x2), (vi x3), (sfv Z)] (F) (fun v D' => (v = some (vi x1) ∧ F = D')) := by
  refine Con.of (ls := #[iv x1, iv x2, iv x3, .val (sfv Z)]) (by decide +kernel) (hent_of (ld1 rfl (ld1 rfl (ld1 rfl (ld1 (XT.cat1 hs.2.2.1) ld0)))) rfl) ?_
  refine W.iloadN d35_0 rfl ?_
  refine W.iloadN d35_1 rfl ?_
  refine W.ior d35_2 ?_
  refine W.iloadN d35_3 rfl ?_
  refine W.ior d35_4 ?_
  refine W.ifN d35_5 (n_lt (by have := rng32 (x3 ||| x1); have := c_or0 x3 x1; have := rng32 ((x3 ||| x1) ||| x2); have := c_or0 (x3 ||| x1) x2; have := q0; have := a_add x1 x2; omega)) ?_
  refine W.iloadN d35_8 rfl ?_
  refine W.iloadN d35_9 rfl ?_
  refine W.iloadN d35_10 rfl ?_
  refine W.isub d35_11 ?_
  refine W.icmpY 23 d35_12 (y_le (by have := a_sub x3 x1; have := q0; have := a_add x1 x2; omega)) (by decide) ?_
  refine W.iloadN d35_23 rfl ?_
  exact W.ireturn d35_24 rfl (Or.inl rfl) rfl (by decide) ⟨rfl, rfl⟩
theorem d34_9 : decode jdk_42_method_157_code 9 = .ok (.ireturn, 1) := by decide +kernel
abbrev y23 : MethodName := ⟨"java/lang/String", "checkBoundsOffCount", "(III)I"⟩
abbrev y23b : ByteArray := jdk_42_method_157_code
abbrev y23r : Option Jvm.ClassFile.FieldType := (Option.some Jvm.ClassFile.FieldType.int)
theorem c30_checkBoundsOffCount {Z a0} (hw : HW a0 Z) (hs : SF Z) {x1 : Int32} (hx1 : 0 ≤ x1.toInt ∧ x1.toInt ≤ 127) {x2 : Int32} (hx2 : 0 ≤ x2.toInt ∧ x2.toInt ≤ 127) {x3 : Int32} (hx3 : 0 ≤ x3.toInt ∧ x3.toInt ≤ 127) (hr0 : (0 : Int32).toInt ≤ x1.toInt) (hr1 : (0 : Int32).toInt ≤ x2.toInt) (hr2 : (x1 + x2).toInt ≤ x3.toInt) {F : List Ent} : Con Z EL y23 y23b 3 y23r (rmm 1 0 0 15) [(vi x1), (vi x2), (vi x3)] (F) (fun v D' => (v = some (vi x1) ∧ F = D')) := by
  refine Con.of (ls := #[iv x1, iv x2, iv x3]) (by decide +kernel) rfl ?_
  refine W.iloadN d34_0 rfl ?_
  refine W.iloadN d34_1 rfl ?_
  refine W.iloadN d34_2 rfl ?_
  refine W.gets d34_3 (wq hw 214 rfl) Via.refl hs.2.2.2.1 ?_
  refine W.callS (as := [(vi x1), (vi x2), (vi x3), (sfv Z)]) 0 [] d34_6 (wq hw 215 rfl) (wq hw 216 rfl) (wq hw 115 rfl) (wq hw 217 rfl) (c31_checkFromIndexSize hw hs (hx1 := hx1) (hx2 := hx2) (hx3 := hx3) (hr0 := by have := q0; have := a_add x1 x2; omega) (hr1 := by have := q0; have := a_add x1 x2; omega) (hr2 := by have := a_add x1 x2; have := q0; omega)) (by decide) pd_IIILjava_util_function_BiFunction__I rfl rfl rfl rfl (by decide) (fun v D' h => ?_)
  obtain ⟨rfl, rfl⟩ := h
  show W _ _ _ _ _ _ _ _ _ _ _ _ 9 _ [(vi x1)]
  exact W.ireturn d34_9 rfl (Or.inl rfl) rfl (by decide) ⟨rfl, rfl⟩
theorem ashr_1 (x : Int32) : (x >>> ((1 : Int32) &&& 31)).toInt = x.toInt / 2 := a_shr x 1 1 2 (by decide) (by decide)
theorem d32_9 : decode jdk_52_method_94_code 9 = .ok (.pop, 1) := by decide +kernel
theorem d32_10 : decode jdk_52_method_94_code 10 = .ok (.return_, 1) := by decide +kernel
abbrev y24 : MethodName := ⟨"java/lang/StringUTF16", "checkBoundsOffCount", "(II[B)V"⟩
abbrev y24b : ByteArray := jdk_52_method_94_code
abbrev y24r : Option Jvm.ClassFile.FieldType := (Option.none : Option Jvm.ClassFile.FieldType)
theorem c28_checkBoundsOffCount {Z a0} (hw : HW a0 Z) (hs : SF Z) {p1 : Addr} {x1 : Int32} (hx1 : 0 ≤ x1.toInt ∧ x1.toInt ≤ 127) {x2 : Int32} (hx2 : 0 ≤ x2.toInt ∧ x2.toInt ≤ 255) {l1 : List Int32} (hl_l1 : (l1.length : Int) = x2.toInt) (hr0 : ((0 : Int32) + x1).toInt ≤ (x2 >>> ((1 : Int32) &&& 31)).toInt) {w_p1 : Bool} {ad_p1 : String} {F : List Ent} (mp1 : (p1, w_p1, ar ad_p1 .byte (lm l1)) ∈ F) : Con Z EL y24 y24b 3 y24r (rmm 2 0 0 29) [(vi 0), (vi x1), (vr p1)] (F) (fun v D' => (v = none ∧ F = D')) := by
  refine Con.of (ls := #[iv 0, iv x1, rv p1]) (by decide +kernel) rfl ?_
  refine W.iloadN d32_0 rfl ?_
  refine W.iloadN d32_1 rfl ?_
  refine W.aloadN d32_2 rfl rfl ?_
  refine W.callS (as := [(vr p1)]) 2 [(vi x1), (vi 0)] d32_3 (wq hw 208 rfl) (wq hw 209 rfl) (wq hw 193 rfl) (wq hw 210 rfl) (c29_length hw hs (hx1 := hx2) (l1 := l1) (hl_l1 := hl_l1) (mp1 := mp1)) (by decide) pd__B_I rfl rfl rfl rfl (by decide) (fun v D' h => ?_)
  obtain ⟨rfl, rfl⟩ := h
  show W _ _ _ _ _ _ _ _ _ _ _ _ 6 _ [(vi (x2 >>> ((1 : Int32) &&& 31))), (vi x1), (vi 0)]
  refine W.callS (as := [(vi 0), (vi x1), (vi (x2 >>> ((1 : Int32) &&& 31)))]) 0 [] d32_6 (wq hw 211 rfl) (wq hw 212 rfl) (wq hw 6 rfl) (wq hw 213 rfl) (c30_checkBoundsOffCount hw hs (hx1 := (by decide)) (hx2 := hx1) (hx3 := (by have := q1; have := ashr_1 x2; have := q0; have := a_add (0 : Int32) x1; omega)) (hr0 := by have := q0; omega) (hr1 := by have := q0; have := a_add (0 : Int32) x1; have := q1; have := ashr_1 x2; omega) (hr2 := by have := q0; have := a_add (0 : Int32) x1; have := q1; have := ashr_1 x2; omega)) (by decide) pd_III_I rfl rfl rfl rfl (by decide) (fun v D' h => ?_)
  obtain ⟨rfl, rfl⟩ := h
  show W _ _ _ _ _ _ _ _ _ _ _ _ 9 _ [(vi 0)]
  refine W.popv d32_9 rfl ?_
  exact W.return_ d32_10 rfl (by decide) ⟨rfl, rfl⟩
theorem pd_II_B_V : parseMethodDescriptor "(II[B)V" = some ⟨[.int, .int, (.array .byte)], none⟩ := by decide +kernel
theorem d31_7 : decode jdk_52_method_86_code 7 = .ok (.iconst 0, 1) := by decide +kernel
theorem d31_8 : decode jdk_52_method_86_code 8 = .ok (.istore 5, 2) := by decide +kernel
theorem d31_10 : decode jdk_52_method_86_code 10 = .ok (.iload 5, 2) := by decide +kernel
theorem d31_12 : decode jdk_52_method_86_code 12 = .ok (.iload 4, 2) := by decide +kernel
theorem d31_14 : decode jdk_52_method_86_code 14 = .ok (.if_icmp .ge 27, 3) := by decide +kernel
theorem d31_41 : decode jdk_52_method_86_code 41 = .ok (.return_, 1) := by decide +kernel
theorem d31_17 : decode jdk_52_method_86_code 17 = .ok (.aload_n 2, 1) := by decide +kernel
theorem d31_18 : decode jdk_52_method_86_code 18 = .ok (.iload_n 3, 1) := by decide +kernel
theorem d31_19 : decode jdk_52_method_86_code 19 = .ok (.iinc 3 1, 3) := by decide +kernel
theorem d31_22 : decode jdk_52_method_86_code 22 = .ok (.aload_n 0, 1) := by decide +kernel
theorem d31_23 : decode jdk_52_method_86_code 23 = .ok (.iload_n 1, 1) := by decide +kernel
theorem d31_24 : decode jdk_52_method_86_code 24 = .ok (.iinc 1 1, 3) := by decide +kernel
theorem d31_27 : decode jdk_52_method_86_code 27 = .ok (.baload, 1) := by decide +kernel
theorem d31_28 : decode jdk_52_method_86_code 28 = .ok (.sipush 255, 3) := by decide +kernel
theorem d31_31 : decode jdk_52_method_86_code 31 = .ok (.iand, 1) := by decide +kernel
theorem d31_32 : decode jdk_52_method_86_code 32 = .ok (.invokestatic 111, 3) := by decide +kernel
theorem d36_0 : decode jdk_52_method_4_code 0 = .ok (.getstatic 44, 3) := by decide +kernel
theorem d36_3 : decode jdk_52_method_4_code 3 = .ok (.ifCond .ne 25, 3) := by decide +kernel
theorem d36_28 : decode jdk_52_method_4_code 28 = .ok (.iload_n 1, 1) := by decide +kernel
theorem d36_29 : decode jdk_52_method_4_code 29 = .ok (.iconst 1, 1) := by decide +kernel
theorem d36_30 : decode jdk_52_method_4_code 30 = .ok (.ishl, 1) := by decide +kernel
theorem d36_31 : decode jdk_52_method_4_code 31 = .ok (.istore_n 1, 1) := by decide +kernel
theorem d36_32 : decode jdk_52_method_4_code 32 = .ok (.aload_n 0, 1) := by decide +kernel
theorem d36_33 : decode jdk_52_method_4_code 33 = .ok (.iload_n 1, 1) := by decide +kernel
theorem d36_34 : decode jdk_52_method_4_code 34 = .ok (.iinc 1 1, 3) := by decide +kernel
theorem d36_37 : decode jdk_52_method_4_code 37 = .ok (.iload_n 2, 1) := by decide +kernel
theorem d36_38 : decode jdk_52_method_4_code 38 = .ok (.getstatic 59, 3) := by decide +kernel
theorem d36_41 : decode jdk_52_method_4_code 41 = .ok (.ishr, 1) := by decide +kernel
theorem d36_42 : decode jdk_52_method_4_code 42 = .ok (.i2b, 1) := by decide +kernel
theorem d36_43 : decode jdk_52_method_4_code 43 = .ok (.bastore, 1) := by decide +kernel
theorem d36_44 : decode jdk_52_method_4_code 44 = .ok (.aload_n 0, 1) := by decide +kernel
theorem d36_45 : decode jdk_52_method_4_code 45 = .ok (.iload_n 1, 1) := by decide +kernel
theorem d36_46 : decode jdk_52_method_4_code 46 = .ok (.iload_n 2, 1) := by decide +kernel
theorem d36_47 : decode jdk_52_method_4_code 47 = .ok (.getstatic 63, 3) := by decide +kernel
theorem d36_50 : decode jdk_52_method_4_code 50 = .ok (.ishr, 1) := by decide +kernel
theorem d36_51 : decode jdk_52_method_4_code 51 = .ok (.i2b, 1) := by decide +kernel
theorem d36_52 : decode jdk_52_method_4_code 52 = .ok (.bastore, 1) := by decide +kernel
theorem ashr_8 (x : Int32) : (x >>> ((8 : Int32) &&& 31)).toInt = x.toInt / 256 := a_shr x 8 8 256 (by decide) (by decide)
theorem d36_53 : decode jdk_52_method_4_code 53 = .ok (.return_, 1) := by decide +kernel
abbrev y25 : MethodName := ⟨"java/lang/StringUTF16", "putChar", "([BII)V"⟩
abbrev y25b : ByteArray := jdk_52_method_4_code
abbrev y25r : Option Jvm.ClassFile.FieldType := (Option.none : Option Jvm.ClassFile.FieldType)
theorem c32_putChar {Z a0} (hw : HW a0 Z) (hs : SF Z) {p1 : Addr} {x1 : Int32} (hx1 : 0 ≤ x1.toInt ∧ x1.toInt ≤ 127) {x2 : Int32} (hx2 : 0 ≤ x2.toInt ∧ x2.toInt ≤ 255) {x3 : Int32} (hx3 : 0 ≤ x3.toInt ∧ x3.toInt ≤ 255) {l1 : List Int32} (hl_l1 : (l1.length : Int) = x3.toInt) (hr0 : x1.toInt < (x3 >>> ((1 : Int32) &&& 31)).toInt) {ad_p1 : String} {F : List Ent} : Con Z EL y25 y25b 3 y25r (rmm 0 0 0 0) [(vr p1), (vi x1), (vi x2)] ((p1, true, ar ad_p1 .byte (lm l1)) :: F) (fun v D' => ((((List.set (List.set l1 (x1 <<< ((1 : Int32) &&& 31)).toInt.toNat x2.toInt8.toInt32) ((x1 <<< ((1 : Int32) &&& 31)) + (1 : Int32)).toInt.toNat (x2 >>> ((8 : Int32) &&& 31)).toInt8.toInt32)).length : Int) = x3.toInt ∧ v = none ∧ (p1, true, ar ad_p1 .byte (lm (List.set (List.set l1 (x1 <<< ((1 : Int32) &&& 31)).toInt.toNat x2.toInt8.toInt32) ((x1 <<< ((1 : Int32) &&& 31)) + (1 : Int32)).toInt.toNat (x2 >>> ((8 : Int32) &&& 31)).toInt8.toInt32))) :: F = D')) := by
  refine Con.of (ls := #[rv p1, iv x1, iv x2]) (by decide +kernel) rfl ?_
  refine W.gets d36_0 (wq hw 221 rfl) Via.refl hs.2.2.2.2.2.2.1 ?_
  refine W.ifY 28 d36_3 (y_ne (by decide)) (by decide) ?_
  refine W.iloadN d36_28 rfl ?_
  refine W.iconst (1) d36_29 (by decide) ?_
  refine W.ishl d36_30 ?_
  refine W.istoreN (ls' := #[rv p1, iv (x1 <<< ((1 : Int32) &&& 31)), iv x2]) d36_31 rfl ?_
  refine W.aloadN d36_32 rfl rfl ?_
  refine W.iloadN d36_33 rfl ?_
  refine W.iincK (ls' := #[rv p1, iv ((x1 <<< ((1 : Int32) &&& 31)) + (1 : Int32)), iv x2]) (1) ((x1 <<< ((1 : Int32) &&& 31)) + (1 : Int32)) d36_34 (by decide) rfl rfl rfl ?_
  refine W.iloadN d36_37 rfl ?_
  refine W.gets d36_38 (wq hw 222 rfl) Via.refl hs.2.2.2.2.2.2.2.1 ?_
  refine W.ishrK x2 d36_41 (z_shr0 x2) ?_
  refine W.i2b d36_42 ?_
  have hl1 := len_set (j := (x1 <<< ((1 : Int32) &&& 31)).toInt.toNat) (v := x2.toInt8.toInt32) hl_l1
  refine W.bastoreS (l := l1) (x' := x2.toInt8.toInt32) (D' := (p1, true, ar ad_p1 .byte (lm (List.set l1 (x1 <<< ((1 : Int32) &&& 31)).toInt.toNat x2.toInt8.toInt32))) :: F) 0 d36_43 rfl (by have := hl_l1; have := q1; have := ashl_1 x1; have := q0; have := ashr_1 x3; omega) (z_narB (by have := a_i2b x2; omega)) rfl ?_
  refine W.aloadN d36_44 rfl rfl ?_
  refine W.iloadN d36_45 rfl ?_
  refine W.iloadN d36_46 rfl ?_
  refine W.gets d36_47 (wq hw 223 rfl) Via.refl hs.2.2.2.2.2.2.2.2.1 ?_
  refine W.ishr d36_50 ?_
  refine W.i2b d36_51 ?_
  have hl2 := len_set (j := ((x1 <<< ((1 : Int32) &&& 31)) + (1 : Int32)).toInt.toNat) (v := (x2 >>> ((8 : Int32) &&& 31)).toInt8.toInt32) hl1
  refine W.bastoreS (l := (List.set l1 (x1 <<< ((1 : Int32) &&& 31)).toInt.toNat x2.toInt8.toInt32)) (x' := (x2 >>> ((8 : Int32) &&& 31)).toInt8.toInt32) (D' := (p1, true, ar ad_p1 .byte (lm (List.set (List.set l1 (x1 <<< ((1 : Int32) &&& 31)).toInt.toNat x2.toInt8.toInt32) ((x1 <<< ((1 : Int32) &&& 31)) + (1 : Int32)).toInt.toNat (x2 >>> ((8 : Int32) &&& 31)).toInt8.toInt32))) :: F) 0 d36_52 rfl (by have := hl1; have := q1; have := ashl_1 x1; have := a_add (x1 <<< ((1 : Int32) &&& 31)) (1 : Int32); have := q0; have := ashr_1 x3; omega) (z_narB (by have := q8; have := ashr_8 x2; have := a_i2b (x2 >>> ((8 : Int32) &&& 31)); omega)) rfl ?_
  exact W.return_ d36_53 rfl (by decide) ⟨hl2, rfl, rfl⟩
theorem am_255 (x : Int32) : (x &&& (255 : Int32)).toInt = x.toInt % 256 := a_and x 255 8 256 (by decide) (by decide) (by decide)
theorem pd__BII_V : parseMethodDescriptor "([BII)V" = some ⟨[(.array .byte), .int, .int], none⟩ := by decide +kernel
theorem d31_35 : decode jdk_52_method_86_code 35 = .ok (.iinc 5 1, 3) := by decide +kernel
theorem d31_38 : decode jdk_52_method_86_code 38 = .ok (.goto (-28), 3) := by decide +kernel
abbrev y26 : MethodName := ⟨"java/lang/StringUTF16", "inflate", "([BI[BII)V"⟩
abbrev y26b : ByteArray := jdk_52_method_86_code
abbrev y26r : Option Jvm.ClassFile.FieldType := (Option.none : Option Jvm.ClassFile.FieldType)
theorem c27_inflate {Z a0} (hw : HW a0 Z) (hs : SF Z) {p1 p2 : Addr} {x1 : Int32} (hx1 : 0 ≤ x1.toInt ∧ x1.toInt ≤ 127) {x2 : Int32} (hx2 : 0 ≤ x2.toInt ∧ x2.toInt ≤ 127) {x3 : Int32} (hx3 : 0 ≤ x3.toInt ∧ x3.toInt ≤ 255) {l1 : List Int32} (hl_l1 : (l1.length : Int) = x2.toInt) {l2 : List Int32} (hl_l2 : (l2.length : Int) = x3.toInt) (hr0 : x1.toInt ≤ x2.toInt) (hr1 : x1.toInt ≤ (x3 >>> ((1 : Int32) &&& 31)).toInt) {ad_p2 : String} {w_p1 : Bool} {ad_p1 : String} {F : List Ent} (mp1 : (p1, w_p1, ar ad_p1 .byte (lm l1)) ∈ F) : Con Z EL y26 y26b 6 y26r (rmm 3 0 0 43) [(vr p1), (vi 0), (vr p2), (vi 0), (vi x1)] ((p2, true, ar ad_p2 .byte (lm l2)) :: F) (fun v D' => (∃ gl4 : List Int32, (gl4.length : Int) = x3.toInt ∧ Inf l1 gl4 x1.toInt.toNat ∧ v = none ∧ (p2, true, ar ad_p2 .byte (lm gl4)) :: F = D')) := by
  refine Con.of (ls := #[rv p1, iv 0, rv p2, iv 0, iv x1, uu]) (by decide +kernel) rfl ?_
  refine W.iloadN d31_0 rfl ?_
  refine W.iload d31_1 rfl ?_
  refine W.aloadN d31_3 rfl rfl ?_
  refine W.callS (as := [(vi 0), (vi x1), (vr p2)]) 0 [] d31_4 (wq hw 205 rfl) (wq hw 206 rfl) (wq hw 193 rfl) (wq hw 207 rfl) (c28_checkBoundsOffCount hw hs (hx1 := hx1) (hx2 := hx3) (hr0 := by have := q0; have := a_add (0 : Int32) x1; have := q1; have := ashr_1 x3; omega) (l1 := l2) (hl_l1 := hl_l2) (mp1 := m0)) (by decide) pd_II_B_V rfl rfl rfl rfl (by decide) (fun v D' h => ?_)
  obtain ⟨rfl, rfl⟩ := h
  show W _ _ _ _ _ _ _ _ _ _ _ _ 7 _ []
  refine W.iconst (0) d31_7 (by decide) ?_
  refine W.istore (ls' := #[rv p1, iv 0, rv p2, iv 0, iv x1, iv 0]) d31_8 rfl ?_
  have K5 : ∀ (m : Nat) (g1 : Int32) (g2 : Int32) (g3 : Int32) (gl4 : List Int32), (0 ≤ g1.toInt ∧ g1.toInt ≤ 127) → (0 ≤ g2.toInt ∧ g2.toInt ≤ 127) → (0 ≤ g3.toInt ∧ g3.toInt ≤ 127) → ((gl4.length : Int) = x3.toInt) → (g3.toInt ≤ x1.toInt) → (g1.toInt = g3.toInt) → (g2.toInt = g3.toInt) → (Inf l1 gl4 g3.toInt.toNat) → (x1.toInt - g3.toInt).toNat = m → W Z EL (rmm 3 0 0 43) "java/lang/StringUTF16" "inflate" jdk_52_method_86_code 6 (Option.none : Option Jvm.ClassFile.FieldType) (fun v D' => (∃ gl4 : List Int32, (gl4.length : Int) = x3.toInt ∧ Inf l1 gl4 x1.toInt.toNat ∧ v = none ∧ (p2, true, ar ad_p2 .byte (lm gl4)) :: F = D')) ((p2, true, ar ad_p2 .byte (lm gl4)) :: F) 0 0 10 #[rv p1, iv g1, rv p2, iv g2, iv x1, iv g3] [] := by
   intro m
   induction m using Nat.strongRecOn with
   | ind m ih =>
    intro g1 g2 g3 gl4 hg1 hg2 hg3 hgl4 hb hi hj hL hm
    refine W.iload d31_10 rfl ?_
    refine W.iload d31_12 rfl ?_
    refine W.icmp 41 d31_14 (by decide) (fun h1 => ?_) (fun h1 => ?_)
    ·
     have ih1 := t_ge h1
     have hq : Inf l1 gl4 x1.toInt.toNat := by rw [show x1.toInt.toNat = g3.toInt.toNat from by have := q1; have := ashr_1 x3; omega]; exact hL
     exact W.return_ d31_41 rfl (by decide) ⟨gl4, hgl4, hq, rfl, rfl⟩
    ·
     have ih1 := f_ge h1
     refine W.aloadN d31_17 rfl rfl ?_
     refine W.iloadN d31_18 rfl ?_
     refine W.iincK (ls' := #[rv p1, iv g1, rv p2, iv (g2 + (1 : Int32)), iv x1, iv g3]) (1) (g2 + (1 : Int32)) d31_19 (by decide) rfl rfl rfl ?_
     refine W.aloadN d31_22 rfl rfl ?_
     refine W.iloadN d31_23 rfl ?_
     refine W.iincK (ls' := #[rv p1, iv (g1 + (1 : Int32)), rv p2, iv (g2 + (1 : Int32)), iv x1, iv g3]) (1) (g1 + (1 : Int32)) d31_24 (by decide) rfl rfl rfl ?_
     refine W.baloadS (j' := g1) (l := l1) d31_27 (mS mp1) rfl (by have := hl_l1; have := q0; have := q1; have := ashr_1 x3; omega) ?_
     refine W.sipush (255) d31_28 (by decide) ?_
     refine W.iand d31_31 ?_
     refine W.callS (as := [(vr p2), (vi g2), (vi ((sel g1 l1) &&& (255 : Int32)))]) 0 [] d31_32 (wq hw 218 rfl) (wq hw 219 rfl) (wq hw 193 rfl) (wq hw 220 rfl) (c32_putChar hw hs (hx1 := hg2) (hx2 := (by have := rng32 (sel g1 l1); have := q255; have := am_255 (sel g1 l1); have := q1; have := ashr_1 x3; omega)) (hx3 := hx3) (hr0 := by have := q1; have := ashr_1 x3; omega) (l1 := gl4) (hl_l1 := hgl4)) (by decide) pd__BII_V rfl rfl rfl rfl (by decide) (fun v D' h => ?_)
     obtain ⟨hl7, rfl, rfl⟩ := h
     show W _ _ _ _ _ _ _ _ _ _ _ _ 35 _ []
     refine W.iincK (ls' := #[rv p1, iv (g1 + (1 : Int32)), rv p2, iv (g2 + (1 : Int32)), iv x1, iv (g3 + (1 : Int32))]) (1) (g3 + (1 : Int32)) d31_35 (by decide) rfl rfl rfl ?_
     refine W.goto 10 d31_38 (by decide) ?_
     exact W.mono (by decide) (by decide) (ih _ (by have := q1; have := a_add g3 (1 : Int32); have := ashr_1 x3; omega) (g1 + (1 : Int32)) (g2 + (1 : Int32)) (g3 + (1 : Int32)) (List.set (List.set gl4 (g2 <<< ((1 : Int32) &&& 31)).toInt.toNat ((sel g1 l1) &&& (255 : Int32)).toInt8.toInt32) ((g2 <<< ((1 : Int32) &&& 31)) + (1 : Int32)).toInt.toNat (((sel g1 l1) &&& (255 : Int32)) >>> ((8 : Int32) &&& 31)).toInt8.toInt32) (by have := q1; have := a_add g1 (1 : Int32); have := ashr_1 x3; omega) (by have := q1; have := a_add g2 (1 : Int32); have := ashr_1 x3; omega) (by have := q1; have := a_add g3 (1 : Int32); have := ashr_1 x3; omega) hl7 (by have := q1; have := a_add g1 (1 : Int32); have := a_add g2 (1 : Int32); have := a_add g3 (1 : Int32); have := ashr_1 x3; have := q0; omega) (by have := q1; have := a_add g1 (1 : Int32); have := a_add g2 (1 : Int32); have := a_add g3 (1 : Int32); have := ashr_1 x3; have := q0; omega) (by have := q1; have := a_add g1 (1 : Int32); have := a_add g2 (1 : Int32); have := a_add g3 (1 : Int32); have := ashr_1 x3; have := q0; omega) (inf_stepI hL hgl4 (by have := q1; have := a_add g1 (1 : Int32); have := a_add g2 (1 : Int32); have := a_add g3 (1 : Int32); have := ashr_1 x3; have := q0; omega)) rfl)
  exact K5 _ (0 : Int32) (0 : Int32) (0 : Int32) l2 (by decide) (by decide) (by decide) hl_l2 (by have := q0; have := q1; have := ashr_1 x3; omega) (by have := q0; have := q1; have := ashr_1 x3; omega) (by have := q0; have := q1; have := ashr_1 x3; omega) (inf_zero _ _) rfl
theorem pd__BI_BII_V : parseMethodDescriptor "([BI[BII)V" = some ⟨[(.array .byte), .int, (.array .byte), .int, .int], none⟩ := by decide +kernel
theorem d30_9 : decode jdk_43_method_50_code 9 = .ok (.return_, 1) := by decide +kernel
abbrev y27 : MethodName := ⟨"java/lang/StringLatin1", "inflate", "([BI[BII)V"⟩
abbrev y27b : ByteArray := jdk_43_method_50_code
abbrev y27r : Option Jvm.ClassFile.FieldType := (Option.none : Option Jvm.ClassFile.FieldType)
theorem c26_inflate {Z a0} (hw : HW a0 Z) (hs : SF Z) {p1 p2 : Addr} {x1 : Int32} (hx1 : 0 ≤ x1.toInt ∧ x1.toInt ≤ 127) {x2 : Int32} (hx2 : 0 ≤ x2.toInt ∧ x2.toInt ≤ 127) {x3 : Int32} (hx3 : 0 ≤ x3.toInt ∧ x3.toInt ≤ 255) {l1 : List Int32} (hl_l1 : (l1.length : Int) = x2.toInt) {l2 : List Int32} (hl_l2 : (l2.length : Int) = x3.toInt) (hr0 : x1.toInt ≤ x2.toInt) (hr1 : x1.toInt ≤ (x3 >>> ((1 : Int32) &&& 31)).toInt) {ad_p2 : String} {w_p1 : Bool} {ad_p1 : String} {F : List Ent} (mp1 : (p1, w_p1, ar ad_p1 .byte (lm l1)) ∈ F) : Con Z EL y27 y27b 5 y27r (rmm 4 0 0 60) [(vr p1), (vi 0), (vr p2), (vi 0), (vi x1)] ((p2, true, ar ad_p2 .byte (lm l2)) :: F) (fun v D' => (∃ gl1 : List Int32, (gl1.length : Int) = x3.toInt ∧ Inf l1 gl1 x1.toInt.toNat ∧ v = none ∧ (p2, true, ar ad_p2 .byte (lm gl1)) :: F = D')) := by
  refine Con.of (ls := #[rv p1, iv 0, rv p2, iv 0, iv x1]) (by decide +kernel) rfl ?_
  refine W.aloadN d30_0 rfl rfl ?_
  refine W.iloadN d30_1 rfl ?_
  refine W.aloadN d30_2 rfl rfl ?_
  refine W.iloadN d30_3 rfl ?_
  refine W.iload d30_4 rfl ?_
  refine W.callS (as := [(vr p1), (vi 0), (vr p2), (vi 0), (vi x1)]) 0 [] d30_6 (wq hw 202 rfl) (wq hw 203 rfl) (wq hw 193 rfl) (wq hw 204 rfl) (c27_inflate hw hs (hx1 := hx1) (hx2 := hx2) (hx3 := hx3) (hr0 := by have := q1; have := ashr_1 x3; omega) (hr1 := by have := q1; have := ashr_1 x3; omega) (l1 := l1) (hl_l1 := hl_l1) (l2 := l2) (hl_l2 := hl_l2) (mp1 := mp1)) (by decide) pd__BI_BII_V rfl rfl rfl rfl (by decide) (fun v D' h => ?_)
  obtain ⟨gl1, hgl1, hp2, rfl, rfl⟩ := h
  show W _ _ _ _ _ _ _ _ _ _ _ _ 9 _ []
  exact W.return_ d30_9 rfl (by decide) ⟨gl1, hgl1, hp2, rfl, rfl⟩
theorem d27_31 : decode jdk_68_method_11_code 31 = .ok (.aload_n 0, 1) := by decide +kernel
theorem d27_32 : decode jdk_68_method_11_code 32 = .ok (.aload_n 1, 1) := by decide +kernel
theorem d27_33 : decode jdk_68_method_11_code 33 = .ok (.putfield 15, 3) := by decide +kernel
theorem d27_36 : decode jdk_68_method_11_code 36 = .ok (.aload_n 0, 1) := by decide +kernel
theorem d27_37 : decode jdk_68_method_11_code 37 = .ok (.iconst 1, 1) := by decide +kernel
theorem d27_38 : decode jdk_68_method_11_code 38 = .ok (.putfield 22, 3) := by decide +kernel
theorem d27_41 : decode jdk_68_method_11_code 41 = .ok (.return_, 1) := by decide +kernel
abbrev y28 : MethodName := ⟨"java/lang/AbstractStringBuilder", "inflate", "()V"⟩
abbrev y28b : ByteArray := jdk_68_method_11_code
abbrev y28r : Option Jvm.ClassFile.FieldType := (Option.none : Option Jvm.ClassFile.FieldType)
theorem c23_inflate {Z a0} (hw : HW a0 Z) (hs : SF Z) {p1 p2 : Addr} {x1 : Int32} (hx1 : 0 ≤ x1.toInt ∧ x1.toInt ≤ 127) {x3 : Int32} (hx3 : 0 ≤ x3.toInt ∧ x3.toInt ≤ 127) {l1 : List Int32} (hl_l1 : (l1.length : Int) = x3.toInt) (hr0 : x1.toInt ≤ x3.toInt) {f_p1_3 : Value} {w_p2 : Bool} {ad_p2 : String} {F : List Ent} (mp2 : (p2, w_p2, ar ad_p2 .byte (lm l1)) ∈ F) : Con Z EL y28 y28b 2 y28r (rmm 5 1 255 76) [(vr p1)] ((p1, true, oStringBuilder (vr p2) (vi 0) (vi x1) f_p1_3) :: F) (fun v D' => (∃ a1 : Addr, ∃ gl3 : List Int32, (gl3.length : Int) = (x3 <<< ((1 : Int32) &&& 31)).toInt ∧ Inf l1 gl3 x1.toInt.toNat ∧ v = none ∧ (a1, true, ar "[B" .byte (lm gl3)) :: (p1, true, oStringBuilder (vr a1) (vi 1) (vi x1) f_p1_3) :: F = D')) := by
  refine Con.of (ls := #[rv p1, uu]) (by decide +kernel) rfl ?_
  refine W.aloadN d27_0 rfl rfl ?_
  refine W.callV (as := []) 0 [] d27_1 (wq hw 132 rfl) (wq hw 133 rfl) (wq hw 135 rfl) (wq hw 135 rfl) (wq hw 134 rfl) (wq hw 96 rfl) (wq hw 136 rfl) (Hp.exa m0) (c21_isLatin1 hw hs (mp1 := m0)) (by decide) pd__Z rfl rfl rfl rfl (by decide) (fun v D' h => ?_)
  obtain ⟨rfl, rfl⟩ := h
  show W _ _ _ _ _ _ _ _ _ _ _ _ 4 _ [(vi 1)]
  refine W.ifY 8 d27_4 (y_ne (by decide)) (by decide) ?_
  refine W.aloadN d27_8 rfl rfl ?_
  refine W.getf d27_9 (wq hw 100 rfl) Via.refl m0 m0 ?_
  refine W.alenS (l := l1) (z := x3) d27_12 (mS mp2) hl_l1 ?_
  refine W.callS (as := [(vi x3)]) 0 [] d27_13 (wq hw 191 rfl) (wq hw 192 rfl) (wq hw 193 rfl) (wq hw 194 rfl) (c24_newBytesFor hw hs (hx1 := hx3)) (by decide) pd_I__B rfl rfl rfl rfl (by decide) (fun v D' h => ?_)
  obtain ⟨a1, hl2, rfl, rfl⟩ := h
  show W _ _ _ _ _ _ _ _ _ _ _ _ 16 _ [(vr a1)]
  refine W.astoreN (ls' := #[rv p1, rv a1]) d27_16 rfl rfl ?_
  refine W.aloadN d27_17 rfl rfl ?_
  refine W.getf d27_18 (wq hw 100 rfl) Via.refl m1 m0 ?_
  refine W.iconst (0) d27_21 (by decide) ?_
  refine W.aloadN d27_22 rfl rfl ?_
  refine W.iconst (0) d27_23 (by decide) ?_
  refine W.aloadN d27_24 rfl rfl ?_
  refine W.getf d27_25 (wq hw 120 rfl) Via.refl m1 m2 ?_
  refine W.callS (as := [(vr p2), (vi 0), (vr a1), (vi 0), (vi x1)]) 0 [] d27_28 (wq hw 199 rfl) (wq hw 200 rfl) (wq hw 184 rfl) (wq hw 201 rfl) (c26_inflate hw hs (hx1 := hx1) (hx2 := hx3) (hx3 := (by have := q1; have := ashl_1 x3; omega)) (hr0 := by omega) (hr1 := by have := q1; have := ashl_1 x3; have := ashr_1 (x3 <<< ((1 : Int32) &&& 31)); omega) (l1 := l1) (hl_l1 := hl_l1) (l2 := (List.replicate (x3 <<< ((1 : Int32) &&& 31)).toInt.toNat (0 : Int32))) (hl_l2 := hl2) (mp1 := (mS mp2))) (by decide) pd__BI_BII_V rfl rfl rfl rfl (by decide) (fun v D' h => ?_)
  obtain ⟨gl3, hgl3, hp4, rfl, rfl⟩ := h
  show W _ _ _ _ _ _ _ _ _ _ _ _ 31 _ []
  refine W.aloadN d27_31 rfl rfl ?_
  refine W.aloadN d27_32 rfl rfl ?_
  refine W.putf (D' := (a1, true, ar "[B" .byte (lm gl3)) :: (p1, true, oStringBuilder (vr a1) (vi 0) (vi x1) f_p1_3) :: F) 1 0 d27_33 (wq hw 100 rfl) Via.refl rfl rfl (Or.inl (wq hw 101 rfl)) (wq hw 87 rfl) pf_B rfl rfl rfl ?_
  refine W.aloadN d27_36 rfl rfl ?_
  refine W.iconst (1) d27_37 (by decide) ?_
  refine W.putf (D' := (a1, true, ar "[B" .byte (lm gl3)) :: (p1, true, oStringBuilder (vr a1) (vi 1) (vi x1) f_p1_3) :: F) 1 1 d27_38 (wq hw 102 rfl) Via.refl rfl rfl (Or.inl (wq hw 103 rfl)) (wq hw 87 rfl) pfB (nw_byte (by decide)) (ft_byte (by decide)) rfl ?_
  exact W.return_ d27_41 rfl (by decide) ⟨a1, gl3, hgl3, hp4, rfl, rfl⟩
theorem d16_73 : decode jdk_68_method_74_code 73 = .ok (.aload_n 0, 1) := by decide +kernel
theorem d16_74 : decode jdk_68_method_74_code 74 = .ok (.getfield 15, 3) := by decide +kernel
theorem d16_77 : decode jdk_68_method_74_code 77 = .ok (.iload 7, 2) := by decide +kernel
theorem d16_79 : decode jdk_68_method_74_code 79 = .ok (.aload_n 1, 1) := by decide +kernel
theorem d16_80 : decode jdk_68_method_74_code 80 = .ok (.iload 6, 2) := by decide +kernel
theorem d16_82 : decode jdk_68_method_74_code 82 = .ok (.iload_n 3, 1) := by decide +kernel
theorem d16_83 : decode jdk_68_method_74_code 83 = .ok (.invokestatic 386, 3) := by decide +kernel
theorem d37_0 : decode jdk_52_method_72_code 0 = .ok (.iload_n 1, 1) := by decide +kernel
theorem d37_1 : decode jdk_52_method_72_code 1 = .ok (.iload_n 1, 1) := by decide +kernel
theorem d37_2 : decode jdk_52_method_72_code 2 = .ok (.iload 4, 2) := by decide +kernel
theorem d37_4 : decode jdk_52_method_72_code 4 = .ok (.iadd, 1) := by decide +kernel
theorem d37_5 : decode jdk_52_method_72_code 5 = .ok (.iload_n 3, 1) := by decide +kernel
theorem d37_6 : decode jdk_52_method_72_code 6 = .ok (.isub, 1) := by decide +kernel
theorem d37_7 : decode jdk_52_method_72_code 7 = .ok (.aload_n 0, 1) := by decide +kernel
theorem d37_8 : decode jdk_52_method_72_code 8 = .ok (.invokestatic 96, 3) := by decide +kernel
theorem d38_0 : decode jdk_52_method_93_code 0 = .ok (.iload_n 0, 1) := by decide +kernel
theorem d38_1 : decode jdk_52_method_93_code 1 = .ok (.iload_n 1, 1) := by decide +kernel
theorem d38_2 : decode jdk_52_method_93_code 2 = .ok (.aload_n 2, 1) := by decide +kernel
theorem d38_3 : decode jdk_52_method_93_code 3 = .ok (.invokestatic 48, 3) := by decide +kernel
theorem d38_6 : decode jdk_52_method_93_code 6 = .ok (.invokestatic 241, 3) := by decide +kernel
theorem d39_0 : decode jdk_42_method_158_code 0 = .ok (.iload_n 0, 1) := by decide +kernel
theorem d39_1 : decode jdk_42_method_158_code 1 = .ok (.iload_n 1, 1) := by decide +kernel
theorem d39_2 : decode jdk_42_method_158_code 2 = .ok (.iload_n 2, 1) := by decide +kernel
theorem d39_3 : decode jdk_42_method_158_code 3 = .ok (.getstatic 1053, 3) := by decide +kernel
theorem d39_6 : decode jdk_42_method_158_code 6 = .ok (.invokestatic 1062, 3) := by decide +kernel
theorem c36_checkFromToIndex {Z a0} (hw : HW a0 Z) (hs : SF Z) {x1 : Int32} (hx1 : 0 ≤ x1.toInt ∧ x1.toInt ≤ 127) {x2 : Int32} (hx2 : 0 ≤ x2.toInt ∧ x2.toInt ≤ 127) {x3 : Int32} (hx3 : 0 ≤ x3.toInt ∧ x3.toInt ≤ 127) (hr0 : (0 : Int32).toInt ≤ x1.toInt) (hr1 : x1.toInt ≤ x2.toInt) (hr2 : x2.toInt ≤ x3.toInt) {F : List Ent} : Con Z EL y10 y10b 4 y10r (rmm 0 0 0 0) [(vi x1), (vi x2), (vi x3), (sfv Z)] (F) (fun v D' => (v = some (vi x1) ∧ F = D')) := by
  refine Con.of (ls := #[iv x1, iv x2, iv x3, .val (sfv Z)]) (by decide +kernel) (hent_of (ld1 rfl (ld1 rfl (ld1 rfl (ld1 (XT.cat1 hs.2.2.1) ld0)))) rfl) ?_
  refine W.iloadN d14_0 rfl ?_
  refine W.ifN d14_1 (n_lt (by have := q0; omega)) ?_
  refine W.iloadN d14_4 rfl ?_
  refine W.iloadN d14_5 rfl ?_
  refine W.icmpN d14_6 (n_gt (by have := q0; omega)) ?_
  refine W.iloadN d14_9 rfl ?_
  refine W.iloadN d14_10 rfl ?_
  refine W.icmpY 22 d14_11 (y_le (by have := q0; omega)) (by decide) ?_
  refine W.iloadN d14_22 rfl ?_
  exact W.ireturn d14_23 rfl (Or.inl rfl) rfl (by decide) ⟨rfl, rfl⟩
theorem d39_9 : decode jdk_42_method_158_code 9 = .ok (.pop, 1) := by decide +kernel
theorem d39_10 : decode jdk_42_method_158_code 10 = .ok (.return_, 1) := by decide +kernel
abbrev y29 : MethodName := ⟨"java/lang/String", "checkBoundsBeginEnd", "(III)V"⟩
abbrev y29b : ByteArray := jdk_42_method_158_code
abbrev y29r : Option Jvm.ClassFile.FieldType := (Option.none : Option Jvm.ClassFile.FieldType)
theorem c35_checkBoundsBeginEnd {Z a0} (hw : HW a0 Z) (hs : SF Z) {x1 : Int32} (hx1 : 0 ≤ x1.toInt ∧ x1.toInt ≤ 127) {x2 : Int32} (hx2 : 0 ≤ x2.toInt ∧ x2.toInt ≤ 127) {x3 : Int32} (hx3 : 0 ≤ x3.toInt ∧ x3.toInt ≤ 127) (hr0 : (0 : Int32).toInt ≤ x1.toInt) (hr1 : x1.toInt ≤ x2.toInt) (hr2 : x2.toInt ≤ x3.toInt) {F : List Ent} : Con Z EL y29 y29b 3 y29r (rmm 1 0 0 15) [(vi x1), (vi x2), (vi x3)] (F) (fun v D' => (v = none ∧ F = D')) := by
  refine Con.of (ls := #[iv x1, iv x2, iv x3]) (by decide +kernel) rfl ?_
  refine W.iloadN d39_0 rfl ?_
  refine W.iloadN d39_1 rfl ?_
  refine W.iloadN d39_2 rfl ?_
  refine W.gets d39_3 (wq hw 214 rfl) Via.refl hs.2.2.2.1 ?_
  refine W.callS (as := [(vi x1), (vi x2), (vi x3), (sfv Z)]) 0 [] d39_6 (wq hw 233 rfl) (wq hw 118 rfl) (wq hw 115 rfl) (wq hw 119 rfl) (c36_checkFromToIndex hw hs (hx1 := hx1) (hx2 := hx2) (hx3 := hx3) (hr0 := by have := q0; omega) (hr1 := by have := q0; omega) (hr2 := by have := q0; omega)) (by decide) pd_IIILjava_util_function_BiFunction__I rfl rfl rfl rfl (by decide) (fun v D' h => ?_)
  obtain ⟨rfl, rfl⟩ := h
  show W _ _ _ _ _ _ _ _ _ _ _ _ 9 _ [(vi x1)]
  refine W.popv d39_9 rfl ?_
  exact W.return_ d39_10 rfl (by decide) ⟨rfl, rfl⟩
theorem pd_III_V : parseMethodDescriptor "(III)V" = some ⟨[.int, .int, .int], none⟩ := by decide +kernel
theorem d38_9 : decode jdk_52_method_93_code 9 = .ok (.return_, 1) := by decide +kernel
abbrev y30 : MethodName := ⟨"java/lang/StringUTF16", "checkBoundsBeginEnd", "(II[B)V"⟩
abbrev y30b : ByteArray := jdk_52_method_93_code
abbrev y30r : Option Jvm.ClassFile.FieldType := (Option.none : Option Jvm.ClassFile.FieldType)
theorem c34_checkBoundsBeginEnd {Z a0} (hw : HW a0 Z) (hs : SF Z) {p1 : Addr} {x1 : Int32} (hx1 : 0 ≤ x1.toInt ∧ x1.toInt ≤ 127) {x2 : Int32} (hx2 : 0 ≤ x2.toInt ∧ x2.toInt ≤ 127) {x3 : Int32} (hx3 : 0 ≤ x3.toInt ∧ x3.toInt ≤ 255) {l1 : List Int32} (hl_l1 : (l1.length : Int) = x3.toInt) (hr0 : x1.toInt ≤ x2.toInt) (hr1 : x2.toInt ≤ (x3 >>> ((1 : Int32) &&& 31)).toInt) {w_p1 : Bool} {ad_p1 : String} {F : List Ent} (mp1 : (p1, w_p1, ar ad_p1 .byte (lm l1)) ∈ F) : Con Z EL y30 y30b 3 y30r (rmm 2 0 0 29) [(vi x1), (vi x2), (vr p1)] (F) (fun v D' => (v = none ∧ F = D')) := by
  refine Con.of (ls := #[iv x1, iv x2, rv p1]) (by decide +kernel) rfl ?_
  refine W.iloadN d38_0 rfl ?_
  refine W.iloadN d38_1 rfl ?_
  refine W.aloadN d38_2 rfl rfl ?_
  refine W.callS (as := [(vr p1)]) 2 [(vi x2), (vi x1)] d38_3 (wq hw 208 rfl) (wq hw 209 rfl) (wq hw 193 rfl) (wq hw 210 rfl) (c29_length hw hs (hx1 := hx3) (l1 := l1) (hl_l1 := hl_l1) (mp1 := mp1)) (by decide) pd__B_I rfl rfl rfl rfl (by decide) (fun v D' h => ?_)
  obtain ⟨rfl, rfl⟩ := h
  show W _ _ _ _ _ _ _ _ _ _ _ _ 6 _ [(vi (x3 >>> ((1 : Int32) &&& 31))), (vi x2), (vi x1)]
  refine W.callS (as := [(vi x1), (vi x2), (vi (x3 >>> ((1 : Int32) &&& 31)))]) 0 [] d38_6 (wq hw 230 rfl) (wq hw 231 rfl) (wq hw 6 rfl) (wq hw 232 rfl) (c35_checkBoundsBeginEnd hw hs (hx1 := hx1) (hx2 := hx2) (hx3 := (by have := q1; have := ashr_1 x3; omega)) (hr0 := by have := q0; have := q1; have := ashr_1 x3; omega) (hr1 := by have := q1; have := ashr_1 x3; omega) (hr2 := by have := q1; have := ashr_1 x3; omega)) (by decide) pd_III_V rfl rfl rfl rfl (by decide) (fun v D' h => ?_)
  obtain ⟨rfl, rfl⟩ := h
  show W _ _ _ _ _ _ _ _ _ _ _ _ 9 _ []
  exact W.return_ d38_9 rfl (by decide) ⟨rfl, rfl⟩
theorem d37_11 : decode jdk_52_method_72_code 11 = .ok (.aload_n 0, 1) := by decide +kernel
theorem d37_12 : decode jdk_52_method_72_code 12 = .ok (.iload_n 1, 1) := by decide +kernel
theorem d37_13 : decode jdk_52_method_72_code 13 = .ok (.aload_n 2, 1) := by decide +kernel
theorem d37_14 : decode jdk_52_method_72_code 14 = .ok (.iload_n 3, 1) := by decide +kernel
theorem d37_15 : decode jdk_52_method_72_code 15 = .ok (.iload 4, 2) := by decide +kernel
theorem d37_17 : decode jdk_52_method_72_code 17 = .ok (.invokestatic 384, 3) := by decide +kernel
theorem d40_0 : decode jdk_52_method_68_code 0 = .ok (.iload_n 3, 1) := by decide +kernel
theorem d40_1 : decode jdk_52_method_68_code 1 = .ok (.iload 4, 2) := by decide +kernel
theorem d40_3 : decode jdk_52_method_68_code 3 = .ok (.if_icmp .ge 20, 3) := by decide +kernel
theorem d40_23 : decode jdk_52_method_68_code 23 = .ok (.return_, 1) := by decide +kernel
theorem d40_6 : decode jdk_52_method_68_code 6 = .ok (.aload_n 0, 1) := by decide +kernel
theorem d40_7 : decode jdk_52_method_68_code 7 = .ok (.iload_n 1, 1) := by decide +kernel
theorem d40_8 : decode jdk_52_method_68_code 8 = .ok (.iinc 1 1, 3) := by decide +kernel
theorem d40_11 : decode jdk_52_method_68_code 11 = .ok (.aload_n 2, 1) := by decide +kernel
theorem d40_12 : decode jdk_52_method_68_code 12 = .ok (.iload_n 3, 1) := by decide +kernel
theorem d40_13 : decode jdk_52_method_68_code 13 = .ok (.iinc 3 1, 3) := by decide +kernel
theorem d40_16 : decode jdk_52_method_68_code 16 = .ok (.caload, 1) := by decide +kernel
theorem d40_17 : decode jdk_52_method_68_code 17 = .ok (.invokestatic 111, 3) := by decide +kernel
theorem c38_putChar {Z a0} (hw : HW a0 Z) (hs : SF Z) {p1 : Addr} {x1 : Int32} (hx1 : 0 ≤ x1.toInt ∧ x1.toInt ≤ 127) {x2 : Int32} (hx2 : 0 ≤ x2.toInt ∧ x2.toInt ≤ 65535) {x3 : Int32} (hx3 : 0 ≤ x3.toInt ∧ x3.toInt ≤ 255) {l1 : List Int32} (hl_l1 : (l1.length : Int) = x3.toInt) (hr0 : x1.toInt < (x3 >>> ((1 : Int32) &&& 31)).toInt) {ad_p1 : String} {F : List Ent} : Con Z EL y25 y25b 3 y25r (rmm 0 0 0 0) [(vr p1), (vi x1), (vi x2)] ((p1, true, ar ad_p1 .byte (lm l1)) :: F) (fun v D' => ((((List.set (List.set l1 (x1 <<< ((1 : Int32) &&& 31)).toInt.toNat x2.toInt8.toInt32) ((x1 <<< ((1 : Int32) &&& 31)) + (1 : Int32)).toInt.toNat (x2 >>> ((8 : Int32) &&& 31)).toInt8.toInt32)).length : Int) = x3.toInt ∧ v = none ∧ (p1, true, ar ad_p1 .byte (lm (List.set (List.set l1 (x1 <<< ((1 : Int32) &&& 31)).toInt.toNat x2.toInt8.toInt32) ((x1 <<< ((1 : Int32) &&& 31)) + (1 : Int32)).toInt.toNat (x2 >>> ((8 : Int32) &&& 31)).toInt8.toInt32))) :: F = D')) := by
  refine Con.of (ls := #[rv p1, iv x1, iv x2]) (by decide +kernel) rfl ?_
  refine W.gets d36_0 (wq hw 221 rfl) Via.refl hs.2.2.2.2.2.2.1 ?_
  refine W.ifY 28 d36_3 (y_ne (by decide)) (by decide) ?_
  refine W.iloadN d36_28 rfl ?_
  refine W.iconst (1) d36_29 (by decide) ?_
  refine W.ishl d36_30 ?_
  refine W.istoreN (ls' := #[rv p1, iv (x1 <<< ((1 : Int32) &&& 31)), iv x2]) d36_31 rfl ?_
  refine W.aloadN d36_32 rfl rfl ?_
  refine W.iloadN d36_33 rfl ?_
  refine W.iincK (ls' := #[rv p1, iv ((x1 <<< ((1 : Int32) &&& 31)) + (1 : Int32)), iv x2]) (1) ((x1 <<< ((1 : Int32) &&& 31)) + (1 : Int32)) d36_34 (by decide) rfl rfl rfl ?_
  refine W.iloadN d36_37 rfl ?_
  refine W.gets d36_38 (wq hw 222 rfl) Via.refl hs.2.2.2.2.2.2.2.1 ?_
  refine W.ishrK x2 d36_41 (z_shr0 x2) ?_
  refine W.i2b d36_42 ?_
  have hl1 := len_set (j := (x1 <<< ((1 : Int32) &&& 31)).toInt.toNat) (v := x2.toInt8.toInt32) hl_l1
  refine W.bastoreS (l := l1) (x' := x2.toInt8.toInt32) (D' := (p1, true, ar ad_p1 .byte (lm (List.set l1 (x1 <<< ((1 : Int32) &&& 31)).toInt.toNat x2.toInt8.toInt32))) :: F) 0 d36_43 rfl (by have := hl_l1; have := q1; have := ashl_1 x1; have := q0; have := ashr_1 x3; omega) (z_narB (by have := a_i2b x2; omega)) rfl ?_
  refine W.aloadN d36_44 rfl rfl ?_
  refine W.iloadN d36_45 rfl ?_
  refine W.iloadN d36_46 rfl ?_
  refine W.gets d36_47 (wq hw 223 rfl) Via.refl hs.2.2.2.2.2.2.2.2.1 ?_
  refine W.ishr d36_50 ?_
  refine W.i2b d36_51 ?_
  have hl2 := len_set (j := ((x1 <<< ((1 : Int32) &&& 31)) + (1 : Int32)).toInt.toNat) (v := (x2 >>> ((8 : Int32) &&& 31)).toInt8.toInt32) hl1
  refine W.bastoreS (l := (List.set l1 (x1 <<< ((1 : Int32) &&& 31)).toInt.toNat x2.toInt8.toInt32)) (x' := (x2 >>> ((8 : Int32) &&& 31)).toInt8.toInt32) (D' := (p1, true, ar ad_p1 .byte (lm (List.set (List.set l1 (x1 <<< ((1 : Int32) &&& 31)).toInt.toNat x2.toInt8.toInt32) ((x1 <<< ((1 : Int32) &&& 31)) + (1 : Int32)).toInt.toNat (x2 >>> ((8 : Int32) &&& 31)).toInt8.toInt32))) :: F) 0 d36_52 rfl (by have := hl1; have := q1; have := ashl_1 x1; have := a_add (x1 <<< ((1 : Int32) &&& 31)) (1 : Int32); have := q0; have := ashr_1 x3; omega) (z_narB (by have := q8; have := ashr_8 x2; have := a_i2b (x2 >>> ((8 : Int32) &&& 31)); omega)) rfl ?_
  exact W.return_ d36_53 rfl (by decide) ⟨hl2, rfl, rfl⟩
theorem d40_20 : decode jdk_52_method_68_code 20 = .ok (.goto (-20), 3) := by decide +kernel
abbrev y31 : MethodName := ⟨"java/lang/StringUTF16", "putChars", "([BI[CII)V"⟩
abbrev y31b : ByteArray := jdk_52_method_68_code
abbrev y31r : Option Jvm.ClassFile.FieldType := (Option.none : Option Jvm.ClassFile.FieldType)
theorem c37_putChars {Z a0} (hw : HW a0 Z) (hs : SF Z) {p1 p2 : Addr} {x1 : Int32} (hx1 : 0 ≤ x1.toInt ∧ x1.toInt ≤ 127) {x2 : Int32} (hx2 : 0 ≤ x2.toInt ∧ x2.toInt ≤ 15) {x3 : Int32} (hx3 : 0 ≤ x3.toInt ∧ x3.toInt ≤ 15) {x4 : Int32} (hx4 : 0 ≤ x4.toInt ∧ x4.toInt ≤ 255) {l1 : List Int32} (hl_l1 : (l1.length : Int) = x4.toInt) {l2 : List Int32} (hl_l2 : (l2.length : Int) = (3 : Int32).toInt) (hb_l2 : ∀ x ∈ l2, 0 ≤ x.toInt ∧ x.toInt ≤ 65535) (hr0 : x2.toInt ≤ x3.toInt) (hr1 : x3.toInt ≤ (3 : Int32).toInt) (hr2 : (x1 + x3).toInt ≤ ((x4 >>> ((1 : Int32) &&& 31)) + x2).toInt) {ad_p1 : String} {w_p2 : Bool} {ad_p2 : String} {F : List Ent} (mp2 : (p2, w_p2, ar ad_p2 .char (lm l2)) ∈ F) : Con Z EL y31 y31b 5 y31r (rmm 1 0 0 14) [(vr p1), (vi x1), (vr p2), (vi x2), (vi x3)] ((p1, true, ar ad_p1 .byte (lm l1)) :: F) (fun v D' => (∃ gl3 : List Int32, (gl3.length : Int) = x4.toInt ∧ App 1 l1 x1.toInt.toNat 1 gl3 l2 x2.toInt.toNat (x3 - x2).toInt.toNat ∧ v = none ∧ (p1, true, ar ad_p1 .byte (lm gl3)) :: F = D')) := by
  refine Con.of (ls := #[rv p1, iv x1, rv p2, iv x2, iv x3]) (by decide +kernel) rfl ?_
  have K4 : ∀ (m : Nat) (g1 : Int32) (g2 : Int32) (gl3 : List Int32), (0 ≤ g1.toInt ∧ g1.toInt ≤ 127) → (0 ≤ g2.toInt ∧ g2.toInt ≤ 127) → ((gl3.length : Int) = x4.toInt) → (x2.toInt ≤ g2.toInt) → (g2.toInt ≤ x3.toInt) → ((g1 + x2).toInt = (x1 + g2).toInt) → (App 1 l1 x1.toInt.toNat 1 gl3 l2 x2.toInt.toNat (g2.toInt - x2.toInt).toNat) → (x3.toInt - g2.toInt).toNat = m → W Z EL (rmm 1 0 0 14) "java/lang/StringUTF16" "putChars" jdk_52_method_68_code 5 (Option.none : Option Jvm.ClassFile.FieldType) (fun v D' => (∃ gl3 : List Int32, (gl3.length : Int) = x4.toInt ∧ App 1 l1 x1.toInt.toNat 1 gl3 l2 x2.toInt.toNat (x3 - x2).toInt.toNat ∧ v = none ∧ (p1, true, ar ad_p1 .byte (lm gl3)) :: F = D')) ((p1, true, ar ad_p1 .byte (lm gl3)) :: F) 0 0 0 #[rv p1, iv g1, rv p2, iv g2, iv x3] [] := by
   intro m
   induction m using Nat.strongRecOn with
   | ind m ih =>
    intro g1 g2 gl3 hg1 hg2 hgl3 ha hb hj hL hm
    refine W.iloadN d40_0 rfl ?_
    refine W.iload d40_1 rfl ?_
    refine W.icmp 23 d40_3 (by decide) (fun h1 => ?_) (fun h1 => ?_)
    ·
     have ih1 := t_ge h1
     have hq := app_to hL (m' := (x3 - x2).toInt.toNat) (by have := a_sub x3 x2; have := q3; have := a_add x1 x3; have := q1; have := ashr_1 x4; have := a_add (x4 >>> ((1 : Int32) &&& 31)) x2; have := a_add g1 x2; have := a_add x1 g2; omega)
     exact W.return_ d40_23 rfl (by decide) ⟨gl3, hgl3, hq, rfl, rfl⟩
    ·
     have ih1 := f_ge h1
     refine W.aloadN d40_6 rfl rfl ?_
     refine W.iloadN d40_7 rfl ?_
     refine W.iincK (ls' := #[rv p1, iv (g1 + (1 : Int32)), rv p2, iv g2, iv x3]) (1) (g1 + (1 : Int32)) d40_8 (by decide) rfl rfl rfl ?_
     refine W.aloadN d40_11 rfl rfl ?_
     refine W.iloadN d40_12 rfl ?_
     refine W.iincK (ls' := #[rv p1, iv (g1 + (1 : Int32)), rv p2, iv (g2 + (1 : Int32)), iv x3]) (1) (g2 + (1 : Int32)) d40_13 (by decide) rfl rfl rfl ?_
     refine W.caloadS (j' := g2) (l := l2) d40_16 (mS mp2) rfl (by have := hl_l2; have := q3; have := q0; have := a_add g1 x2; have := a_add x1 g2; have := a_add x1 x3; have := q1; have := ashr_1 x4; have := a_add (x4 >>> ((1 : Int32) &&& 31)) x2; omega) ?_
     refine W.callS (as := [(vr p1), (vi g1), (vi (sel g2 l2))]) 0 [] d40_17 (wq hw 218 rfl) (wq hw 219 rfl) (wq hw 193 rfl) (wq hw 220 rfl) (c38_putChar hw hs (hx1 := hg1) (hx2 := (by have := sel_b hb_l2 (by decide) g2; have := a_add g1 x2; have := a_add x1 g2; have := q3; have := a_add x1 x3; have := q1; have := ashr_1 x4; have := a_add (x4 >>> ((1 : Int32) &&& 31)) x2; omega)) (hx3 := hx4) (hr0 := by have := q1; have := ashr_1 x4; have := a_add x1 x3; have := a_add (x4 >>> ((1 : Int32) &&& 31)) x2; have := a_add g1 x2; have := a_add x1 g2; have := q3; omega) (l1 := gl3) (hl_l1 := hgl3)) (by decide) pd__BII_V rfl rfl rfl rfl (by decide) (fun v D' h => ?_)
     obtain ⟨hl6, rfl, rfl⟩ := h
     show W _ _ _ _ _ _ _ _ _ _ _ _ 20 _ []
     refine W.goto 0 d40_20 (by decide) ?_
     exact W.mono (by decide) (by decide) (ih _ (by have := q1; have := a_add g2 (1 : Int32); have := q3; have := a_add x1 x3; have := ashr_1 x4; have := a_add (x4 >>> ((1 : Int32) &&& 31)) x2; have := a_add g1 x2; have := a_add x1 g2; omega) (g1 + (1 : Int32)) (g2 + (1 : Int32)) (List.set (List.set gl3 (g1 <<< ((1 : Int32) &&& 31)).toInt.toNat (sel g2 l2).toInt8.toInt32) ((g1 <<< ((1 : Int32) &&& 31)) + (1 : Int32)).toInt.toNat ((sel g2 l2) >>> ((8 : Int32) &&& 31)).toInt8.toInt32) (by have := q1; have := a_add g1 (1 : Int32); have := a_add g1 x2; have := a_add x1 g2; have := a_add x1 x3; have := ashr_1 x4; have := a_add (x4 >>> ((1 : Int32) &&& 31)) x2; have := q3; omega) (by have := q1; have := a_add g2 (1 : Int32); have := a_add g1 x2; have := a_add x1 g2; have := q3; have := a_add x1 x3; have := ashr_1 x4; have := a_add (x4 >>> ((1 : Int32) &&& 31)) x2; omega) hl6 (by have := q1; have := a_add g2 (1 : Int32); have := a_add g1 (1 : Int32); have := q3; have := ashr_1 x4; have := a_add (g1 + (1 : Int32)) x2; have := a_add x1 (g2 + (1 : Int32)); have := q0; have := a_add g1 x2; have := a_add x1 g2; have := a_add x1 x3; have := a_add (x4 >>> ((1 : Int32) &&& 31)) x2; omega) (by have := q1; have := a_add g2 (1 : Int32); have := a_add g1 (1 : Int32); have := q3; have := ashr_1 x4; have := a_add (g1 + (1 : Int32)) x2; have := a_add x1 (g2 + (1 : Int32)); have := q0; have := a_add g1 x2; have := a_add x1 g2; have := a_add x1 x3; have := a_add (x4 >>> ((1 : Int32) &&& 31)) x2; omega) (by have := q1; have := a_add g2 (1 : Int32); have := a_add g1 (1 : Int32); have := q3; have := ashr_1 x4; have := a_add (g1 + (1 : Int32)) x2; have := a_add x1 (g2 + (1 : Int32)); have := q0; have := a_add g1 x2; have := a_add x1 g2; have := a_add x1 x3; have := a_add (x4 >>> ((1 : Int32) &&& 31)) x2; omega) (app_step1I hL hgl3 (sel_b hb_l2 (by decide) _) (by have := q1; have := a_add g2 (1 : Int32); have := a_add g1 (1 : Int32); have := q3; have := ashr_1 x4; have := a_add (g1 + (1 : Int32)) x2; have := a_add x1 (g2 + (1 : Int32)); have := q0; have := a_add g1 x2; have := a_add x1 g2; have := a_add x1 x3; have := a_add (x4 >>> ((1 : Int32) &&& 31)) x2; omega)) rfl)
  exact K4 _ x1 x2 l1 hx1 (by have := a_add x1 x3; have := q1; have := ashr_1 x4; have := a_add (x4 >>> ((1 : Int32) &&& 31)) x2; have := q3; omega) hl_l1 (by have := q3; have := q1; have := ashr_1 x4; have := a_add x1 x2; have := q0; have := a_add x1 x3; have := a_add (x4 >>> ((1 : Int32) &&& 31)) x2; omega) (by have := q3; have := q1; have := ashr_1 x4; have := a_add x1 x2; have := q0; have := a_add x1 x3; have := a_add (x4 >>> ((1 : Int32) &&& 31)) x2; omega) (by have := q3; have := q1; have := ashr_1 x4; have := a_add x1 x2; have := q0; have := a_add x1 x3; have := a_add (x4 >>> ((1 : Int32) &&& 31)) x2; omega) (app_first _ _ _ _ _) rfl
theorem pd__BI_CII_V : parseMethodDescriptor "([BI[CII)V" = some ⟨[(.array .byte), .int, (.array .char), .int, .int], none⟩ := by decide +kernel
theorem d37_20 : decode jdk_52_method_72_code 20 = .ok (.return_, 1) := by decide +kernel
abbrev y32 : MethodName := ⟨"java/lang/StringUTF16", "putCharsSB", "([BI[CII)V"⟩
abbrev y32b : ByteArray := jdk_52_method_72_code
abbrev y32r : Option Jvm.ClassFile.FieldType := (Option.none : Option Jvm.ClassFile.FieldType)
theorem c33_putCharsSB {Z a0} (hw : HW a0 Z) (hs : SF Z) {p1 p2 : Addr} {x1 : Int32} (hx1 : 0 ≤ x1.toInt ∧ x1.toInt ≤ 127) {x2 : Int32} (hx2 : 0 ≤ x2.toInt ∧ x2.toInt ≤ 15) {x3 : Int32} (hx3 : 0 ≤ x3.toInt ∧ x3.toInt ≤ 15) {x4 : Int32} (hx4 : 0 ≤ x4.toInt ∧ x4.toInt ≤ 255) {l1 : List Int32} (hl_l1 : (l1.length : Int) = x4.toInt) {l2 : List Int32} (hl_l2 : (l2.length : Int) = (3 : Int32).toInt) (hb_l2 : ∀ x ∈ l2, 0 ≤ x.toInt ∧ x.toInt ≤ 65535) (hr0 : x2.toInt ≤ x3.toInt) (hr1 : x3.toInt ≤ (3 : Int32).toInt) (hr2 : (x1 + x3).toInt ≤ ((x4 >>> ((1 : Int32) &&& 31)) + x2).toInt) {ad_p1 : String} {w_p2 : Bool} {ad_p2 : String} {F : List Ent} (mp2 : (p2, w_p2, ar ad_p2 .char (lm l2)) ∈ F) : Con Z EL y32 y32b 5 y32r (rmm 3 0 0 43) [(vr p1), (vi x1), (vr p2), (vi x2), (vi x3)] ((p1, true, ar ad_p1 .byte (lm l1)) :: F) (fun v D' => (∃ gl1 : List Int32, (gl1.length : Int) = x4.toInt ∧ App 1 l1 x1.toInt.toNat 1 gl1 l2 x2.toInt.toNat (x3 - x2).toInt.toNat ∧ v = none ∧ (p1, true, ar ad_p1 .byte (lm gl1)) :: F = D')) := by
  refine Con.of (ls := #[rv p1, iv x1, rv p2, iv x2, iv x3]) (by decide +kernel) rfl ?_
  refine W.iloadN d37_0 rfl ?_
  refine W.iloadN d37_1 rfl ?_
  refine W.iload d37_2 rfl ?_
  refine W.iadd d37_4 ?_
  refine W.iloadN d37_5 rfl ?_
  refine W.isub d37_6 ?_
  refine W.aloadN d37_7 rfl rfl ?_
  refine W.callS (as := [(vi x1), (vi ((x1 + x3) - x2)), (vr p1)]) 0 [] d37_8 (wq hw 227 rfl) (wq hw 228 rfl) (wq hw 193 rfl) (wq hw 229 rfl) (c34_checkBoundsBeginEnd hw hs (hx1 := hx1) (hx2 := (by have := a_add x1 x3; have := a_sub (x1 + x3) x2; have := q3; have := q1; have := ashr_1 x4; have := a_add (x4 >>> ((1 : Int32) &&& 31)) x2; omega)) (hx3 := hx4) (hr0 := by have := a_add x1 x3; have := a_sub (x1 + x3) x2; have := q3; have := q1; have := ashr_1 x4; have := a_add (x4 >>> ((1 : Int32) &&& 31)) x2; omega) (hr1 := by have := a_add x1 x3; have := a_sub (x1 + x3) x2; have := q1; have := ashr_1 x4; have := q3; have := a_add (x4 >>> ((1 : Int32) &&& 31)) x2; omega) (l1 := l1) (hl_l1 := hl_l1) (mp1 := m0)) (by decide) pd_II_B_V rfl rfl rfl rfl (by decide) (fun v D' h => ?_)
  obtain ⟨rfl, rfl⟩ := h
  show W _ _ _ _ _ _ _ _ _ _ _ _ 11 _ []
  refine W.aloadN d37_11 rfl rfl ?_
  refine W.iloadN d37_12 rfl ?_
  refine W.aloadN d37_13 rfl rfl ?_
  refine W.iloadN d37_14 rfl ?_
  refine W.iload d37_15 rfl ?_
  refine W.callS (as := [(vr p1), (vi x1), (vr p2), (vi x2), (vi x3)]) 0 [] d37_17 (wq hw 234 rfl) (wq hw 235 rfl) (wq hw 193 rfl) (wq hw 236 rfl) (c37_putChars hw hs (hx1 := hx1) (hx2 := hx2) (hx3 := hx3) (hx4 := hx4) (hr0 := by have := q3; have := a_add x1 x3; have := q1; have := ashr_1 x4; have := a_add (x4 >>> ((1 : Int32) &&& 31)) x2; omega) (hr1 := by have := q3; have := a_add x1 x3; have := q1; have := ashr_1 x4; have := a_add (x4 >>> ((1 : Int32) &&& 31)) x2; omega) (hr2 := by have := a_add x1 x3; have := q1; have := ashr_1 x4; have := a_add (x4 >>> ((1 : Int32) &&& 31)) x2; have := q3; omega) (l1 := l1) (hl_l1 := hl_l1) (l2 := l2) (hl_l2 := hl_l2) (hb_l2 := hb_l2) (mp2 := mp2)) (by decide) pd__BI_CII_V rfl rfl rfl rfl (by decide) (fun v D' h => ?_)
  obtain ⟨gl1, hgl1, hp2, rfl, rfl⟩ := h
  show W _ _ _ _ _ _ _ _ _ _ _ _ 20 _ []
  exact W.return_ d37_20 rfl (by decide) ⟨gl1, hgl1, hp2, rfl, rfl⟩
theorem d16_86 : decode jdk_68_method_74_code 86 = .ok (.aload_n 0, 1) := by decide +kernel
theorem d16_87 : decode jdk_68_method_74_code 87 = .ok (.iload 4, 2) := by decide +kernel
theorem d16_89 : decode jdk_68_method_74_code 89 = .ok (.iload_n 3, 1) := by decide +kernel
theorem d16_90 : decode jdk_68_method_74_code 90 = .ok (.iadd, 1) := by decide +kernel
theorem d16_91 : decode jdk_68_method_74_code 91 = .ok (.iload 6, 2) := by decide +kernel
theorem d16_93 : decode jdk_68_method_74_code 93 = .ok (.isub, 1) := by decide +kernel
theorem d16_94 : decode jdk_68_method_74_code 94 = .ok (.putfield 79, 3) := by decide +kernel
theorem d16_97 : decode jdk_68_method_74_code 97 = .ok (.return_, 1) := by decide +kernel
theorem d16_46 : decode jdk_68_method_74_code 46 = .ok (.aload 5, 2) := by decide +kernel
theorem d16_48 : decode jdk_68_method_74_code 48 = .ok (.iload 7, 2) := by decide +kernel
theorem d16_50 : decode jdk_68_method_74_code 50 = .ok (.iinc 7 1, 3) := by decide +kernel
theorem d16_53 : decode jdk_68_method_74_code 53 = .ok (.iload 8, 2) := by decide +kernel
theorem d16_55 : decode jdk_68_method_74_code 55 = .ok (.i2b, 1) := by decide +kernel
theorem d16_56 : decode jdk_68_method_74_code 56 = .ok (.bastore, 1) := by decide +kernel
theorem d16_57 : decode jdk_68_method_74_code 57 = .ok (.goto 41, 3) := by decide +kernel
theorem d16_98 : decode jdk_68_method_74_code 98 = .ok (.iinc 6 1, 3) := by decide +kernel
theorem d16_101 : decode jdk_68_method_74_code 101 = .ok (.goto (-75), 3) := by decide +kernel
abbrev y33 : MethodName := ⟨"java/lang/AbstractStringBuilder", "appendChars", "([CII)V"⟩
abbrev y33b : ByteArray := jdk_68_method_74_code
abbrev y33r : Option Jvm.ClassFile.FieldType := (Option.none : Option Jvm.ClassFile.FieldType)
theorem c20_appendChars {Z a0} (hw : HW a0 Z) (hs : SF Z) {p1 p2 p3 : Addr} {x1 : Int32} (hx1 : 0 ≤ x1.toInt ∧ x1.toInt ≤ 15) {x2 : Int32} (hx2 : 0 ≤ x2.toInt ∧ x2.toInt ≤ 15) {x3 : Int32} (hx3 : 0 ≤ x3.toInt ∧ x3.toInt ≤ 15) {x5 : Int32} (hx5 : 0 ≤ x5.toInt ∧ x5.toInt ≤ 127) {l1 : List Int32} (hl_l1 : (l1.length : Int) = (3 : Int32).toInt) (hb_l1 : ∀ x ∈ l1, 0 ≤ x.toInt ∧ x.toInt ≤ 65535) {l2 : List Int32} (hl_l2 : (l2.length : Int) = x5.toInt) (hr0 : x1.toInt ≤ x2.toInt) (hr1 : x2.toInt ≤ (3 : Int32).toInt) (hr2 : (x3 + x2).toInt ≤ (x5 + x1).toInt) {f_p1_3 : Value} {ad_p3 : String} {w_p2 : Bool} {ad_p2 : String} {F : List Ent} (mp2 : (p2, w_p2, ar ad_p2 .char (lm l1)) ∈ F) : Con Z EL y33 y33b 9 y33r (rmm 6 1 255 89) [(vr p1), (vr p2), (vi x1), (vi x2)] ((p3, true, ar ad_p3 .byte (lm l2)) :: (p1, true, oStringBuilder (vr p3) (vi 0) (vi x3) f_p1_3) :: F) (fun v D' => (∃ gl3 : List Int32, (gl3.length : Int) = x5.toInt ∧ App 0 l2 x3.toInt.toNat 0 gl3 l1 x1.toInt.toNat (x2 - x1).toInt.toNat ∧ v = none ∧ (p3, true, ar ad_p3 .byte (lm gl3)) :: (p1, true, oStringBuilder (vr p3) (vi 0) (vi ((x3 + x2) - x1)) f_p1_3) :: F = D') ∨ (∃ a7 : Addr, ∃ gl10 gl3 : List Int32, (gl10.length : Int) = (x5 <<< ((1 : Int32) &&& 31)).toInt ∧ (gl3.length : Int) = x5.toInt ∧ App 0 l2 x3.toInt.toNat 1 gl10 l1 x1.toInt.toNat (x2 - x1).toInt.toNat ∧ v = none ∧ (a7, true, ar "[B" .byte (lm gl10)) :: (p1, true, oStringBuilder (vr a7) (vi 1) (vi ((x3 + x2) - x1)) f_p1_3) :: (p3, true, ar ad_p3 .byte (lm gl3)) :: F = D')) := by
  refine Con.of (ls := #[rv p1, rv p2, iv x1, iv x2, uu, uu, uu, uu, uu]) (by decide +kernel) rfl ?_
  refine W.aloadN d16_0 rfl rfl ?_
  refine W.getf d16_1 (wq hw 120 rfl) Via.refl m1 m2 ?_
  refine W.istore (ls' := #[rv p1, rv p2, iv x1, iv x2, iv x3, uu, uu, uu, uu]) d16_4 rfl ?_
  refine W.aloadN d16_6 rfl rfl ?_
  refine W.callV (as := []) 0 [] d16_7 (wq hw 132 rfl) (wq hw 133 rfl) (wq hw 135 rfl) (wq hw 135 rfl) (wq hw 134 rfl) (wq hw 96 rfl) (wq hw 136 rfl) (Hp.exa m1) (c21_isLatin1 hw hs (mp1 := m1)) (by decide) pd__Z rfl rfl rfl rfl (by decide) (fun v D' h => ?_)
  obtain ⟨rfl, rfl⟩ := h
  show W _ _ _ _ _ _ _ _ _ _ _ _ 10 _ [(vi 1)]
  refine W.ifN d16_10 (n_eq (by decide)) ?_
  refine W.aloadN d16_13 rfl rfl ?_
  refine W.getf d16_14 (wq hw 100 rfl) Via.refl m1 m0 ?_
  refine W.astore (ls' := #[rv p1, rv p2, iv x1, iv x2, iv x3, rv p3, uu, uu, uu]) d16_17 rfl rfl ?_
  refine W.iloadN d16_19 rfl ?_
  refine W.istore (ls' := #[rv p1, rv p2, iv x1, iv x2, iv x3, rv p3, iv x1, uu, uu]) d16_20 rfl ?_
  refine W.iload d16_22 rfl ?_
  refine W.istore (ls' := #[rv p1, rv p2, iv x1, iv x2, iv x3, rv p3, iv x1, iv x3, uu]) d16_24 rfl ?_
  have K5 : ∀ (m : Nat) (g1 : Int32) (g2 : Int32) (gl3 : List Int32) (t4 : Slot), (0 ≤ g1.toInt ∧ g1.toInt ≤ 127) → (0 ≤ g2.toInt ∧ g2.toInt ≤ 127) → ((gl3.length : Int) = x5.toInt) → (SlOk t4) → (x1.toInt ≤ g2.toInt) → (g2.toInt ≤ x2.toInt) → ((g1 + x1).toInt = (x3 + g2).toInt) → (App 0 l2 x3.toInt.toNat 0 gl3 l1 x1.toInt.toNat (g2.toInt - x1.toInt).toNat) → (x2.toInt - g2.toInt).toNat = m → W Z EL (rmm 6 1 255 89) "java/lang/AbstractStringBuilder" "appendChars" jdk_68_method_74_code 9 (Option.none : Option Jvm.ClassFile.FieldType) (fun v D' => (∃ gl3 : List Int32, (gl3.length : Int) = x5.toInt ∧ App 0 l2 x3.toInt.toNat 0 gl3 l1 x1.toInt.toNat (x2 - x1).toInt.toNat ∧ v = none ∧ (p3, true, ar ad_p3 .byte (lm gl3)) :: (p1, true, oStringBuilder (vr p3) (vi 0) (vi ((x3 + x2) - x1)) f_p1_3) :: F = D') ∨ (∃ a7 : Addr, ∃ gl10 gl3 : List Int32, (gl10.length : Int) = (x5 <<< ((1 : Int32) &&& 31)).toInt ∧ (gl3.length : Int) = x5.toInt ∧ App 0 l2 x3.toInt.toNat 1 gl10 l1 x1.toInt.toNat (x2 - x1).toInt.toNat ∧ v = none ∧ (a7, true, ar "[B" .byte (lm gl10)) :: (p1, true, oStringBuilder (vr a7) (vi 1) (vi ((x3 + x2) - x1)) f_p1_3) :: (p3, true, ar ad_p3 .byte (lm gl3)) :: F = D')) ((p3, true, ar ad_p3 .byte (lm gl3)) :: (p1, true, oStringBuilder (vr p3) (vi 0) (vi x3) f_p1_3) :: F) 0 0 26 #[rv p1, rv p2, iv x1, iv x2, iv x3, rv p3, iv g2, iv g1, t4] [] := by
   intro m
   induction m using Nat.strongRecOn with
   | ind m ih =>
    intro g1 g2 gl3 t4 hg1 hg2 hgl3 ht4 ha hb hj hL hm
    refine W.iload d16_26 rfl ?_
    refine W.iloadN d16_28 rfl ?_
    refine W.icmp 104 d16_29 (by decide) (fun h1 => ?_) (fun h1 => ?_)
    ·
     have ih1 := t_ge h1
     have hq := app_to hL (m' := (x2 - x1).toInt.toNat) (by have := a_sub x2 x1; have := q3; have := a_add x3 x2; have := a_add x5 x1; have := a_add g1 x1; have := a_add x3 g2; omega)
     refine W.goto 119 d16_104 (by decide) ?_
     refine W.aloadN d16_119 rfl rfl ?_
     refine W.iload d16_120 rfl ?_
     refine W.iloadN d16_122 rfl ?_
     refine W.iadd d16_123 ?_
     refine W.iloadN d16_124 rfl ?_
     refine W.isub d16_125 ?_
     refine W.putf (D' := (p3, true, ar ad_p3 .byte (lm gl3)) :: (p1, true, oStringBuilder (vr p3) (vi 0) (vi ((x3 + x2) - x1)) f_p1_3) :: F) 1 2 d16_126 (wq hw 120 rfl) Via.refl rfl rfl (Or.inl (wq hw 121 rfl)) (wq hw 87 rfl) pfI rfl rfl rfl ?_
     exact W.return_ d16_129 rfl (by decide) (Or.inl ⟨gl3, hgl3, hq, rfl, rfl⟩)
    ·
     have ih1 := f_ge h1
     refine W.aloadN d16_32 rfl rfl ?_
     refine W.iload d16_33 rfl ?_
     refine W.caloadS (j' := g2) (l := l1) d16_35 (mS (mS mp2)) rfl (by have := hl_l1; have := q3; have := q0; have := a_add g1 x1; have := a_add x3 g2; have := a_add x3 x2; have := a_add x5 x1; omega) ?_
     refine W.istore (ls' := #[rv p1, rv p2, iv x1, iv x2, iv x3, rv p3, iv g2, iv g1, iv (sel g2 l1)]) d16_36 (store_ok ht4 rfl rfl) ?_
     refine W.iload d16_38 rfl ?_
     refine W.callS (as := [(vi (sel g2 l1))]) 0 [] d16_40 (wq hw 182 rfl) (wq hw 183 rfl) (wq hw 184 rfl) (wq hw 185 rfl) (c22_canEncode hw hs (hx1 := (by have := sel_b hb_l1 (by decide) g2; have := a_add g1 x1; have := a_add x3 g2; have := q3; have := a_add x3 x2; have := a_add x5 x1; omega))) (by decide) pd_C_Z rfl rfl rfl rfl (by decide) (fun v D' h => ?_)
     rcases h with ⟨h2, rfl, rfl⟩ | ⟨h3, rfl, rfl⟩
     ·
      have ih2 := t_gt h2
      show W _ _ _ _ _ _ _ _ _ _ _ _ 43 _ [(vi 0)]
      refine W.ifY 60 d16_43 (y_eq (by decide)) (by decide) ?_
      refine W.aloadN d16_60 rfl rfl ?_
      refine W.iload d16_61 rfl ?_
      refine W.dup d16_63 rfl ?_
      refine W.istore (ls' := #[rv p1, rv p2, iv x1, iv x2, iv g1, rv p3, iv g2, iv g1, iv (sel g2 l1)]) d16_64 rfl ?_
      refine W.putf (D' := (p3, true, ar ad_p3 .byte (lm gl3)) :: (p1, true, oStringBuilder (vr p3) (vi 0) (vi g1) f_p1_3) :: F) 1 2 d16_66 (wq hw 120 rfl) Via.refl rfl rfl (Or.inl (wq hw 121 rfl)) (wq hw 87 rfl) pfI rfl rfl rfl ?_
      refine W.aloadN d16_69 rfl rfl ?_
      refine W.front 1 (D' := (p1, true, oStringBuilder (vr p3) (vi 0) (vi g1) f_p1_3) :: (p3, true, ar ad_p3 .byte (lm gl3)) :: F) rfl rfl ?_
      refine W.callP (as := []) 0 [] d16_70 (wq hw 186 rfl) (wq hw 187 rfl) (wq hw 189 rfl) (wq hw 188 rfl) (wq hw 96 rfl) (wq hw 190 rfl) (Hp.exa m0) (c23_inflate hw hs (hx1 := hg1) (hx3 := hx5) (hr0 := by have := a_add x3 x2; have := a_add x5 x1; have := a_add g1 x1; have := a_add x3 g2; have := q3; have := q255; have := sel_b hb_l1 (by decide) g2; omega) (l1 := gl3) (hl_l1 := hgl3) (mp2 := m0)) (by decide) pd__V rfl rfl rfl rfl (by decide) (fun v D' h => ?_)
      obtain ⟨a7, gl8, hgl8, hp9, rfl, rfl⟩ := h
      show W _ _ _ _ _ _ _ _ _ _ _ _ 73 _ []
      refine W.aloadN d16_73 rfl rfl ?_
      refine W.getf d16_74 (wq hw 100 rfl) Via.refl m1 m0 ?_
      refine W.iload d16_77 rfl ?_
      refine W.aloadN d16_79 rfl rfl ?_
      refine W.iload d16_80 rfl ?_
      refine W.iloadN d16_82 rfl ?_
      refine W.callS (as := [(vr a7), (vi g1), (vr p2), (vi g2), (vi x2)]) 0 [] d16_83 (wq hw 224 rfl) (wq hw 225 rfl) (wq hw 193 rfl) (wq hw 226 rfl) (c33_putCharsSB hw hs (hx1 := hg1) (hx2 := (by have := a_add g1 x1; have := a_add x3 g2; have := q255; have := sel_b hb_l1 (by decide) g2; have := q3; have := a_add x3 x2; have := a_add x5 x1; omega)) (hx3 := hx2) (hx4 := (by have := q1; have := ashl_1 x5; have := a_add x3 x2; have := a_add x5 x1; have := q3; have := a_add g1 x1; have := a_add x3 g2; have := q255; have := sel_b hb_l1 (by decide) g2; omega)) (hr0 := by have := q3; have := a_add x3 x2; have := a_add x5 x1; have := a_add g1 x1; have := a_add x3 g2; have := q255; have := sel_b hb_l1 (by decide) g2; omega) (hr1 := by have := q3; have := a_add x3 x2; have := a_add x5 x1; have := a_add g1 x1; have := a_add x3 g2; have := q255; have := sel_b hb_l1 (by decide) g2; omega) (hr2 := by have := a_add g1 x2; have := q1; have := ashl_1 x5; have := ashr_1 (x5 <<< ((1 : Int32) &&& 31)); have := a_add ((x5 <<< ((1 : Int32) &&& 31)) >>> ((1 : Int32) &&& 31)) g2; have := q3; have := a_add x3 x2; have := a_add x5 x1; have := a_add g1 x1; have := a_add x3 g2; have := q255; have := sel_b hb_l1 (by decide) g2; omega) (l1 := gl8) (hl_l1 := hgl8) (l2 := l1) (hl_l2 := hl_l1) (hb_l2 := hb_l1) (mp2 := (mS (mS mp2)))) (by decide) pd__BI_CII_V rfl rfl rfl rfl (by decide) (fun v D' h => ?_)
      obtain ⟨gl10, hgl10, hp11, rfl, rfl⟩ := h
      show W _ _ _ _ _ _ _ _ _ _ _ _ 86 _ []
      refine W.aloadN d16_86 rfl rfl ?_
      refine W.iload d16_87 rfl ?_
      refine W.iloadN d16_89 rfl ?_
      refine W.iadd d16_90 ?_
      refine W.iload d16_91 rfl ?_
      refine W.isub d16_93 ?_
      refine W.putf (D' := (a7, true, ar "[B" .byte (lm gl10)) :: (p1, true, oStringBuilder (vr a7) (vi 1) (vi ((g1 + x2) - g2)) f_p1_3) :: (p3, true, ar ad_p3 .byte (lm gl3)) :: F) 1 2 d16_94 (wq hw 120 rfl) Via.refl rfl rfl (Or.inl (wq hw 121 rfl)) (wq hw 87 rfl) pfI rfl rfl rfl ?_
      rw [show ((g1 + x2) - g2) = ((x3 + x2) - x1) from eqI (by have := a_add g1 x2; have := a_sub (g1 + x2) g2; have := a_add x3 x2; have := a_sub (x3 + x2) x1; have := q3; have := a_add x5 x1; have := a_add g1 x1; have := a_add x3 g2; have := q255; have := sel_b hb_l1 (by decide) g2; omega)]
      have hq := app_to (app_infl hL hp9 hp11 (by have := a_sub x2 x1; have := a_sub x2 g2; have := q3; have := a_add x3 x2; have := a_add x5 x1; have := a_add g1 x1; have := a_add x3 g2; have := q255; have := sel_b hb_l1 (by decide) g2; omega) (by have := a_sub x2 x1; have := a_sub x2 g2; have := q3; have := a_add x3 x2; have := a_add x5 x1; have := a_add g1 x1; have := a_add x3 g2; have := q255; have := sel_b hb_l1 (by decide) g2; omega)) (m' := (x2 - x1).toInt.toNat) (by have := a_sub x2 x1; have := a_sub x2 g2; have := q3; have := a_add x3 x2; have := a_add x5 x1; have := a_add g1 x1; have := a_add x3 g2; have := q255; have := sel_b hb_l1 (by decide) g2; omega)
      exact W.return_ d16_97 rfl (by decide) (Or.inr ⟨a7, gl10, gl3, hgl10, hgl3, hq, rfl, rfl⟩)
     ·
      have ih3 := f_gt h3
      show W _ _ _ _ _ _ _ _ _ _ _ _ 43 _ [(vi 1)]
      refine W.ifN d16_43 (n_eq (by decide)) ?_
      refine W.aload 5 d16_46 rfl rfl ?_
      refine W.iload d16_48 rfl ?_
      refine W.iincK (ls' := #[rv p1, rv p2, iv x1, iv x2, iv x3, rv p3, iv g2, iv (g1 + (1 : Int32)), iv (sel g2 l1)]) (1) (g1 + (1 : Int32)) d16_50 (by decide) rfl rfl rfl ?_
      refine W.iload d16_53 rfl ?_
      refine W.i2b d16_55 ?_
      have hl12 := len_set (j := g1.toInt.toNat) (v := (sel g2 l1).toInt8.toInt32) hgl3
      refine W.bastoreS (l := gl3) (x' := (sel g2 l1).toInt8.toInt32) (D' := (p3, true, ar ad_p3 .byte (lm (List.set gl3 g1.toInt.toNat (sel g2 l1).toInt8.toInt32))) :: (p1, true, oStringBuilder (vr p3) (vi 0) (vi x3) f_p1_3) :: F) 0 d16_56 rfl (by have := hgl3; have := q0; have := a_add x3 x2; have := a_add x5 x1; have := a_add g1 x1; have := a_add x3 g2; have := q3; have := sel_b hb_l1 (by decide) g2; have := q255; omega) (z_narB (by have := sel_b hb_l1 (by decide) g2; have := a_i2b (sel g2 l1); have := a_add g1 x1; have := a_add x3 g2; have := q255; have := q3; have := a_add x3 x2; have := a_add x5 x1; omega)) rfl ?_
      refine W.goto 98 d16_57 (by decide) ?_
      refine W.iincK (ls' := #[rv p1, rv p2, iv x1, iv x2, iv x3, rv p3, iv (g2 + (1 : Int32)), iv (g1 + (1 : Int32)), iv (sel g2 l1)]) (1) (g2 + (1 : Int32)) d16_98 (by decide) rfl rfl rfl ?_
      refine W.goto 26 d16_101 (by decide) ?_
      exact W.mono (by decide) (by decide) (ih _ (by have := q1; have := a_add g2 (1 : Int32); have := q3; have := a_add x3 x2; have := a_add x5 x1; have := a_add g1 x1; have := a_add x3 g2; have := sel_b hb_l1 (by decide) g2; have := q255; omega) (g1 + (1 : Int32)) (g2 + (1 : Int32)) (List.set gl3 g1.toInt.toNat (sel g2 l1).toInt8.toInt32) (iv (sel g2 l1)) (by have := q1; have := a_add g1 (1 : Int32); have := a_add g1 x1; have := a_add x3 g2; have := a_add x3 x2; have := a_add x5 x1; have := sel_b hb_l1 (by decide) g2; have := q255; have := q3; omega) (by have := q1; have := a_add g2 (1 : Int32); have := a_add g1 x1; have := a_add x3 g2; have := sel_b hb_l1 (by decide) g2; have := q255; have := q3; have := a_add x3 x2; have := a_add x5 x1; omega) hl12 (Or.inr ⟨_, rfl, rfl⟩) (by have := q1; have := a_add g2 (1 : Int32); have := a_add g1 (1 : Int32); have := q3; have := a_add (g1 + (1 : Int32)) x1; have := a_add x3 (g2 + (1 : Int32)); have := q0; have := a_add g1 x1; have := a_add x3 g2; have := a_add x3 x2; have := a_add x5 x1; have := sel_b hb_l1 (by decide) g2; have := q255; omega) (by have := q1; have := a_add g2 (1 : Int32); have := a_add g1 (1 : Int32); have := q3; have := a_add (g1 + (1 : Int32)) x1; have := a_add x3 (g2 + (1 : Int32)); have := q0; have := a_add g1 x1; have := a_add x3 g2; have := a_add x3 x2; have := a_add x5 x1; have := sel_b hb_l1 (by decide) g2; have := q255; omega) (by have := q1; have := a_add g2 (1 : Int32); have := a_add g1 (1 : Int32); have := q3; have := a_add (g1 + (1 : Int32)) x1; have := a_add x3 (g2 + (1 : Int32)); have := q0; have := a_add g1 x1; have := a_add x3 g2; have := a_add x3 x2; have := a_add x5 x1; have := sel_b hb_l1 (by decide) g2; have := q255; omega) (app_step0I hL hgl3 (by have := sel_b hb_l1 (by decide) g2; have := a_add g1 x1; have := a_add x3 g2; have := q255; have := q3; have := a_add x3 x2; have := a_add x5 x1; omega) (by have := q1; have := a_add g2 (1 : Int32); have := a_add g1 (1 : Int32); have := q3; have := a_add (g1 + (1 : Int32)) x1; have := a_add x3 (g2 + (1 : Int32)); have := q0; have := a_add g1 x1; have := a_add x3 g2; have := a_add x3 x2; have := a_add x5 x1; have := sel_b hb_l1 (by decide) g2; have := q255; omega)) rfl)
  exact K5 _ x3 x1 l2 (uu) (by have := a_add x3 x2; have := a_add x5 x1; have := q3; omega) (by have := a_add x3 x2; have := a_add x5 x1; have := q3; omega) hl_l2 (Or.inl rfl) (by have := q3; have := a_add x3 x1; have := q0; have := a_add x3 x2; have := a_add x5 x1; omega) (by have := q3; have := a_add x3 x1; have := q0; have := a_add x3 x2; have := a_add x5 x1; omega) (by have := q3; have := a_add x3 x1; have := q0; have := a_add x3 x2; have := a_add x5 x1; omega) (app_first _ _ _ _ _) rfl
theorem pd__CII_V : parseMethodDescriptor "([CII)V" = some ⟨[(.array .char), .int, .int], none⟩ := by decide +kernel
theorem d13_35 : decode jdk_68_method_29_code 35 = .ok (.aload_n 0, 1) := by decide +kernel
theorem d13_36 : decode jdk_68_method_29_code 36 = .ok (.areturn, 1) := by decide +kernel
abbrev y34 : MethodName := ⟨"java/lang/AbstractStringBuilder", "append", "([CII)Ljava/lang/AbstractStringBuilder;"⟩
abbrev y34b : ByteArray := jdk_68_method_29_code
abbrev y34r : Option Jvm.ClassFile.FieldType := (Option.some (Jvm.ClassFile.FieldType.object "java/lang/AbstractStringBuilder"))
theorem c12_append {Z a0} (hw : HW a0 Z) (hs : SF Z) {p1 p2 p3 : Addr} {x1 : Int32} (hx1 : 0 ≤ x1.toInt ∧ x1.toInt ≤ 7) {x2 : Int32} (hx2 : 0 ≤ x2.toInt ∧ x2.toInt ≤ 7) {x3 : Int32} (hx3 : 0 ≤ x3.toInt ∧ x3.toInt ≤ 7) {l1 : List Int32} (hl_l1 : (l1.length : Int) = (3 : Int32).toInt) (hb_l1 : ∀ x ∈ l1, 0 ≤ x.toInt ∧ x.toInt ≤ 65535) {l2 : List Int32} (hl_l2 : (l2.length : Int) = x2.toInt) (hr0 : (x1 + x2).toInt ≤ (3 : Int32).toInt) (hr1 : x3.toInt ≤ x2.toInt) {f_p1_3 : Value} {w_p2 : Bool} {ad_p2 : String} {F : List Ent} (mp2 : (p2, w_p2, ar ad_p2 .char (lm l1)) ∈ F) : Con Z EL y34 y34b 5 y34r (rmm 7 2 510 109) [(vr p1), (vr p2), (vi x1), (vi x2)] ((p3, true, ar "[B" .byte (lm l2)) :: (p1, true, oStringBuilder (vr p3) (vi 0) (vi x3) f_p1_3) :: F) (fun v D' => (∃ a2 : Addr, ∃ g3 : Int32, ∃ gl6 : List Int32, (0 ≤ g3.toInt ∧ g3.toInt ≤ 16) ∧ (x3 + x2).toInt ≤ g3.toInt ∧ (gl6.length : Int) = g3.toInt ∧ App 0 l2 x3.toInt.toNat 0 gl6 l1 x1.toInt.toNat x2.toInt.toNat ∧ v = some (vr p1) ∧ (a2, true, ar "[B" .byte (lm gl6)) :: (p1, true, oStringBuilder (vr a2) (vi 0) (vi (x3 + x2)) f_p1_3) :: F = D') ∨ (∃ a8 : Addr, ∃ g3 : Int32, ∃ gl9 : List Int32, (0 ≤ g3.toInt ∧ g3.toInt ≤ 16) ∧ (x3 + x2).toInt ≤ g3.toInt ∧ (gl9.length : Int) = (g3 <<< ((1 : Int32) &&& 31)).toInt ∧ App 0 l2 x3.toInt.toNat 1 gl9 l1 x1.toInt.toNat x2.toInt.toNat ∧ v = some (vr p1) ∧ (a8, true, ar "[B" .byte (lm gl9)) :: (p1, true, oStringBuilder (vr a8) (vi 1) (vi (x3 + x2)) f_p1_3) :: F = D')) := by
  refine Con.of (ls := #[rv p1, rv p2, iv x1, iv x2, uu]) (by decide +kernel) rfl ?_
  refine W.iloadN d13_0 rfl ?_
  refine W.iloadN d13_1 rfl ?_
  refine W.iadd d13_2 ?_
  refine W.istore (ls' := #[rv p1, rv p2, iv x1, iv x2, iv (x1 + x2)]) d13_3 rfl ?_
  refine W.iloadN d13_5 rfl ?_
  refine W.iload d13_6 rfl ?_
  refine W.aloadN d13_8 rfl rfl ?_
  refine W.alenS (l := l1) (z := (3 : Int32)) d13_9 (mS (mS mp2)) hl_l1 ?_
  refine W.gets d13_10 (wq hw 114 rfl) Via.refl hs.2.2.2.2.2.1 ?_
  refine W.callS (as := [(vi x1), (vi (x1 + x2)), (vi 3), (ifv Z)]) 0 [] d13_13 (wq hw 117 rfl) (wq hw 118 rfl) (wq hw 115 rfl) (wq hw 119 rfl) (c13_checkFromToIndex hw hs (hx1 := (by have := a_add x1 x2; have := q3; omega)) (hx2 := (by have := a_add x1 x2; have := q3; omega)) (hx3 := (by decide)) (hr0 := by have := q0; have := a_add x1 x2; have := q3; omega) (hr1 := by have := a_add x1 x2; have := q3; omega) (hr2 := by have := a_add x1 x2; have := q3; omega)) (by decide) pd_IIILjava_util_function_BiFunction__I rfl rfl rfl rfl (by decide) (fun v D' h => ?_)
  obtain ⟨rfl, rfl⟩ := h
  show W _ _ _ _ _ _ _ _ _ _ _ _ 16 _ [(vi x1)]
  refine W.popv d13_16 rfl ?_
  have K5 : ∀ (a2 : Addr) (g3 : Int32) (gl4 : List Int32), 0 ≤ g3.toInt ∧ g3.toInt ≤ 16 → (gl4.length : Int) = g3.toInt → ((x3 + x2).toInt ≤ g3.toInt) → (∀ i, i < x3.toInt.toNat → dc 0 gl4 i = dc 0 l2 i) → W Z EL (rmm 7 2 510 109) "java/lang/AbstractStringBuilder" "append" jdk_68_method_29_code 5 (Option.some (Jvm.ClassFile.FieldType.object "java/lang/AbstractStringBuilder")) (fun v D' => (∃ a2 : Addr, ∃ g3 : Int32, ∃ gl6 : List Int32, (0 ≤ g3.toInt ∧ g3.toInt ≤ 16) ∧ (x3 + x2).toInt ≤ g3.toInt ∧ (gl6.length : Int) = g3.toInt ∧ App 0 l2 x3.toInt.toNat 0 gl6 l1 x1.toInt.toNat x2.toInt.toNat ∧ v = some (vr p1) ∧ (a2, true, ar "[B" .byte (lm gl6)) :: (p1, true, oStringBuilder (vr a2) (vi 0) (vi (x3 + x2)) f_p1_3) :: F = D') ∨ (∃ a8 : Addr, ∃ g3 : Int32, ∃ gl9 : List Int32, (0 ≤ g3.toInt ∧ g3.toInt ≤ 16) ∧ (x3 + x2).toInt ≤ g3.toInt ∧ (gl9.length : Int) = (g3 <<< ((1 : Int32) &&& 31)).toInt ∧ App 0 l2 x3.toInt.toNat 1 gl9 l1 x1.toInt.toNat x2.toInt.toNat ∧ v = some (vr p1) ∧ (a8, true, ar "[B" .byte (lm gl9)) :: (p1, true, oStringBuilder (vr a8) (vi 1) (vi (x3 + x2)) f_p1_3) :: F = D')) ((p1, true, oStringBuilder (vr a2) (vi 0) (vi x3) f_p1_3) :: (a2, true, ar "[B" .byte (lm gl4)) :: F) 1 255 27 #[rv p1, rv p2, iv x1, iv x2, iv (x1 + x2)] [] := by
   intro a2 g3 gl4 hg3 hgl4 hN hD
   refine W.aloadN d13_27 rfl rfl ?_
   refine W.aloadN d13_28 rfl rfl ?_
   refine W.iloadN d13_29 rfl ?_
   refine W.iload d13_30 rfl ?_
   refine W.front 1 (D' := (a2, true, ar "[B" .byte (lm gl4)) :: (p1, true, oStringBuilder (vr a2) (vi 0) (vi x3) f_p1_3) :: F) rfl rfl ?_
   refine W.callP (as := [(vr p2), (vi x1), (vi (x1 + x2))]) 0 [] d13_32 (wq hw 127 rfl) (wq hw 128 rfl) (wq hw 130 rfl) (wq hw 129 rfl) (wq hw 96 rfl) (wq hw 131 rfl) (Hp.exa m1) (c20_appendChars hw hs (hx1 := (by have := a_add x1 x2; have := q3; have := a_add x3 x2; omega)) (hx2 := (by have := a_add x1 x2; have := q3; have := a_add x3 x2; omega)) (hx3 := (by have := a_add x3 x2; have := a_add x1 x2; have := q3; omega)) (hx5 := (by have := a_add x3 x2; have := a_add x1 x2; have := q3; omega)) (hr0 := by have := a_add x1 x2; have := q3; have := a_add x3 x2; omega) (hr1 := by have := a_add x1 x2; have := q3; have := a_add x3 x2; omega) (hr2 := by have := a_add x1 x2; have := a_add x3 (x1 + x2); have := a_add g3 x1; have := q3; have := a_add x3 x2; omega) (l1 := l1) (hl_l1 := hl_l1) (hb_l1 := hb_l1) (l2 := gl4) (hl_l2 := hgl4) (mp2 := mp2)) (by decide) pd__CII_V rfl rfl rfl rfl (by decide) (fun v D' h => ?_)
   rcases h with ⟨gl6, hgl6, hp7, rfl, rfl⟩ | ⟨a8, gl9, gl10, hgl9, hgl10, hp11, rfl, rfl⟩
   ·
    show W _ _ _ _ _ _ _ _ _ _ _ _ 35 _ []
    rw [show ((x3 + (x1 + x2)) - x1) = (x3 + x2) from eqI (by have := a_add x1 x2; have := a_add x3 (x1 + x2); have := a_sub (x3 + (x1 + x2)) x1; have := a_add x3 x2; have := q3; omega)]
    have hz := app_base hD hp7 (m' := x2.toInt.toNat) (by have := a_add x1 x2; have := a_sub (x1 + x2) x1; have := q3; have := a_add x3 x2; omega)
    refine W.aloadN d13_35 rfl rfl ?_
    exact W.areturn d13_36 rfl rfl rfl (by decide) (Or.inl ⟨a2, g3, gl6, hg3, hN, hgl6, hz, rfl, rfl⟩)
   ·
    show W _ _ _ _ _ _ _ _ _ _ _ _ 35 _ []
    rw [show ((x3 + (x1 + x2)) - x1) = (x3 + x2) from eqI (by have := a_add x1 x2; have := a_add x3 (x1 + x2); have := a_sub (x3 + (x1 + x2)) x1; have := a_add x3 x2; have := q3; omega)]
    have hz := app_base hD hp11 (m' := x2.toInt.toNat) (by have := a_add x1 x2; have := a_sub (x1 + x2) x1; have := q3; have := a_add x3 x2; omega)
    refine W.aloadN d13_35 rfl rfl ?_
    refine W.dropAt 2 (D' := (a8, true, ar "[B" .byte (lm gl9)) :: (p1, true, oStringBuilder (vr a8) (vi 1) (vi (x3 + x2)) f_p1_3) :: F) rfl ?_
    exact W.areturn d13_36 rfl rfl rfl (by decide) (Or.inr ⟨a8, g3, gl9, hg3, hN, hgl9, hz, rfl, rfl⟩)
  refine W.aloadN d13_17 rfl rfl ?_
  refine W.aloadN d13_18 rfl rfl ?_
  refine W.getf d13_19 (wq hw 120 rfl) Via.refl m1 m2 ?_
  refine W.iloadN d13_22 rfl ?_
  refine W.iadd d13_23 ?_
  refine W.front 1 (D' := (p1, true, oStringBuilder (vr p3) (vi 0) (vi x3) f_p1_3) :: (p3, true, ar "[B" .byte (lm l2)) :: F) rfl rfl ?_
  refine W.callP (as := [(vi (x3 + x2))]) 0 [] d13_24 (wq hw 122 rfl) (wq hw 123 rfl) (wq hw 125 rfl) (wq hw 124 rfl) (wq hw 96 rfl) (wq hw 126 rfl) (Hp.exa m0) (c14_ensureCapacityInternal hw hs (hx1 := (by have := a_add x3 x2; have := a_add x1 x2; have := q3; omega)) (hx4 := hx2) (l1 := l2) (hl_l1 := hl_l2) (mp2 := m0)) (by decide) pd_I_V rfl rfl rfl rfl (by decide) (fun v D' h => ?_)
  rcases h with ⟨h1, rfl, rfl⟩ | ⟨a12, h2, h3, h4, hl13, rfl, rfl⟩ | ⟨a14, h5, h6, h7, hl15, rfl, rfl⟩
  ·
   have ih1 := t_le h1
   show W _ _ _ _ _ _ _ _ _ _ _ _ 27 _ []
   exact W.mono (by decide) (by decide) (K5 p3 x2 l2 (by have := a_add x1 x2; have := q3; have := a_add x3 x2; have := a_sub (x3 + x2) x2; have := q0; omega) hl_l2 (by have := a_add x3 x2; have := a_add x1 x2; have := q3; have := a_sub (x3 + x2) x2; have := q0; omega) (fun _ _ => rfl))
  ·
   have ih2 := f_le h2
   have ih3 := t_lt h3
   have ih4 := f_gt h4
   show W _ _ _ _ _ _ _ _ _ _ _ _ 27 _ []
   refine W.front 1 (D' := (p1, true, oStringBuilder (vr a12) (vi 0) (vi x3) f_p1_3) :: (a12, true, ar "[B" .byte (lm (cpl l2 (0 : Int32).toInt.toNat (List.replicate (x2 + (x2 + (2 : Int32))).toInt.toNat (0 : Int32)) (0 : Int32).toInt.toNat x2.toInt.toNat))) :: (p3, true, ar "[B" .byte (lm l2)) :: F) rfl rfl ?_
   refine W.heap (fun _ _ H => H.sub ((((List.Sublist.refl _).cons _).cons_cons _).cons_cons _)) ?_
   exact W.mono (by decide) (by decide) (K5 a12 (x2 + (x2 + (2 : Int32))) (cpl l2 (0 : Int32).toInt.toNat (List.replicate (x2 + (x2 + (2 : Int32))).toInt.toNat (0 : Int32)) (0 : Int32).toInt.toNat x2.toInt.toNat) (by have := q2; have := a_add x2 (2 : Int32); have := a_add x2 (x2 + (2 : Int32)); have := a_add x1 x2; have := q3; have := q0; have := a_add x3 x2; have := a_sub (x3 + x2) x2; omega) hl13 (by have := a_add x3 x2; have := q2; have := a_add x2 (2 : Int32); have := a_add x2 (x2 + (2 : Int32)); have := a_add x1 x2; have := q3; have := q0; have := a_sub (x3 + x2) x2; omega) (fun i hi => dc_cplI (by have := q2; have := a_add x2 (2 : Int32); have := a_add x2 (x2 + (2 : Int32)); have := q0; have := a_add x1 x2; have := q3; have := a_add x3 x2; have := a_sub (x3 + x2) x2; omega) (by have := hl_l2; have := q2; have := a_add x2 (2 : Int32); have := a_add x2 (x2 + (2 : Int32)); have := q0; have := a_add x1 x2; have := q3; have := a_add x3 x2; have := a_sub (x3 + x2) x2; omega) (by have := len_rep (z := (x2 + (x2 + (2 : Int32)))) (by have := q2; have := a_add x2 (2 : Int32); have := a_add x2 (x2 + (2 : Int32)); have := q0; have := a_add x1 x2; have := q3; have := a_add x3 x2; have := a_sub (x3 + x2) x2; omega); have := q2; have := a_add x2 (2 : Int32); have := a_add x2 (x2 + (2 : Int32)); have := q0; have := a_add x1 x2; have := q3; have := a_add x3 x2; have := a_sub (x3 + x2) x2; omega)))
  ·
   have ih5 := f_le h5
   exact absurd h6 (Classical.not_not.mpr (y_lt (by have := a_add x3 x2; have := a_sub (x3 + x2) x2; have := q2; have := a_add x2 (2 : Int32); have := a_add x1 x2; have := q3; have := q0; omega)))
theorem pd__CII_Ljava_lang_AbstractStringBuilder_ : parseMethodDescriptor "([CII)Ljava/lang/AbstractStringBuilder;" = some ⟨[(.array .char), .int, .int], some (.object "java/lang/AbstractStringBuilder")⟩ := by decide +kernel
theorem d12_7 : decode jdk_67_method_12_code 7 = .ok (.pop, 1) := by decide +kernel
theorem d12_8 : decode jdk_67_method_12_code 8 = .ok (.aload_n 0, 1) := by decide +kernel
theorem d12_9 : decode jdk_67_method_12_code 9 = .ok (.areturn, 1) := by decide +kernel
abbrev y35 : MethodName := ⟨"java/lang/StringBuilder", "append", "([CII)Ljava/lang/StringBuilder;"⟩
abbrev y35b : ByteArray := jdk_67_method_12_code
abbrev y35r : Option Jvm.ClassFile.FieldType := (Option.some (Jvm.ClassFile.FieldType.object "java/lang/StringBuilder"))
theorem c11_append {Z a0} (hw : HW a0 Z) (hs : SF Z) {p1 p2 p3 : Addr} {x1 : Int32} (hx1 : 0 ≤ x1.toInt ∧ x1.toInt ≤ 7) {x2 : Int32} (hx2 : 0 ≤ x2.toInt ∧ x2.toInt ≤ 7) {x3 : Int32} (hx3 : 0 ≤ x3.toInt ∧ x3.toInt ≤ 127) {l1 : List Int32} (hl_l1 : (l1.length : Int) = (3 : Int32).toInt) (hb_l1 : ∀ x ∈ l1, 0 ≤ x.toInt ∧ x.toInt ≤ 65535) {l2 : List Int32} (hl_l2 : (l2.length : Int) = x2.toInt) (hr0 : (x1 + x2).toInt ≤ (3 : Int32).toInt) (hr1 : x3.toInt ≤ x2.toInt) {f_p1_3 : Value} {w_p2 : Bool} {ad_p2 : String} {F : List Ent} (mp2 : (p2, w_p2, ar ad_p2 .char (lm l1)) ∈ F) : Con Z EL y35 y35b 4 y35r (rmm 8 2 510 125) [(vr p1), (vr p2), (vi x1), (vi x2)] ((p3, true, ar "[B" .byte (lm l2)) :: (p1, true, oStringBuilder (vr p3) (vi 0) (vi x3) f_p1_3) :: F) (fun v D' => (∃ a1 : Addr, ∃ g2 : Int32, ∃ gl4 : List Int32, (0 ≤ g2.toInt ∧ g2.toInt ≤ 16) ∧ (x3 + x2).toInt ≤ g2.toInt ∧ (gl4.length : Int) = g2.toInt ∧ App 0 l2 x3.toInt.toNat 0 gl4 l1 x1.toInt.toNat x2.toInt.toNat ∧ v = some (vr p1) ∧ (a1, true, ar "[B" .byte (lm gl4)) :: (p1, true, oStringBuilder (vr a1) (vi 0) (vi (x3 + x2)) f_p1_3) :: F = D') ∨ (∃ a6 : Addr, ∃ g7 : Int32, ∃ gl9 : List Int32, (0 ≤ g7.toInt ∧ g7.toInt ≤ 16) ∧ (x3 + x2).toInt ≤ g7.toInt ∧ (gl9.length : Int) = (g7 <<< ((1 : Int32) &&& 31)).toInt ∧ App 0 l2 x3.toInt.toNat 1 gl9 l1 x1.toInt.toNat x2.toInt.toNat ∧ v = some (vr p1) ∧ (a6, true, ar "[B" .byte (lm gl9)) :: (p1, true, oStringBuilder (vr a6) (vi 1) (vi (x3 + x2)) f_p1_3) :: F = D')) := by
  refine Con.of (ls := #[rv p1, rv p2, iv x1, iv x2]) (by decide +kernel) rfl ?_
  refine W.aloadN d12_0 rfl rfl ?_
  refine W.aloadN d12_1 rfl rfl ?_
  refine W.iloadN d12_2 rfl ?_
  refine W.iloadN d12_3 rfl ?_
  refine W.callUp (as := [(vr p2), (vi x1), (vi x2)]) 0 [] d12_4 (wq hw 109 rfl) (same_self (by rfl) (by decide) (wq hw 110 rfl) (wq hw 123 rfl) (wq hw 125 rfl)) (wq hw 110 rfl) (wq hw 111 rfl) (by decide) (wq hw 96 rfl) (wq hw 113 rfl) (Hp.ins m1) (c12_append hw hs (hx1 := hx1) (hx2 := hx2) (hx3 := (by have := a_add x1 x2; have := q3; omega)) (hr0 := by have := a_add x1 x2; have := q3; omega) (hr1 := by have := a_add x1 x2; have := q3; omega) (l1 := l1) (hl_l1 := hl_l1) (hb_l1 := hb_l1) (l2 := l2) (hl_l2 := hl_l2) (mp2 := mp2)) pd__CII_Ljava_lang_AbstractStringBuilder_ rfl rfl rfl rfl (by decide) (fun v D' h => ?_)
  rcases h with ⟨a1, g2, gl4, hg2, hf3, hgl4, hp5, rfl, rfl⟩ | ⟨a6, g7, gl9, hg7, hf8, hgl9, hp10, rfl, rfl⟩
  ·
   show W _ _ _ _ _ _ _ _ _ _ _ _ 7 _ [(vr p1)]
   refine W.popv d12_7 rfl ?_
   refine W.aloadN d12_8 rfl rfl ?_
   exact W.areturn d12_9 rfl rfl rfl (by decide) (Or.inl ⟨a1, g2, gl4, hg2, hf3, hgl4, hp5, rfl, rfl⟩)
  ·
   show W _ _ _ _ _ _ _ _ _ _ _ _ 7 _ [(vr p1)]
   refine W.popv d12_7 rfl ?_
   refine W.aloadN d12_8 rfl rfl ?_
   exact W.areturn d12_9 rfl rfl rfl (by decide) (Or.inr ⟨a6, g7, gl9, hg7, hf8, hgl9, hp10, rfl, rfl⟩)
theorem pd__CII_Ljava_lang_StringBuilder_ : parseMethodDescriptor "([CII)Ljava/lang/StringBuilder;" = some ⟨[(.array .char), .int, .int], some (.object "java/lang/StringBuilder")⟩ := by decide +kernel
theorem d9_29 : decode prog_64_method_12_code 29 = .ok (.pop, 1) := by decide +kernel
theorem d9_30 : decode prog_64_method_12_code 30 = .ok (.return_, 1) := by decide +kernel
abbrev y36 : MethodName := ⟨"com/example/montaje/montaje/xml/XmlElement", "appendText", "([CII)V"⟩
abbrev y36b : ByteArray := prog_64_method_12_code
abbrev y36r : Option Jvm.ClassFile.FieldType := (Option.none : Option Jvm.ClassFile.FieldType)
theorem c8_appendText {Z a0} (hw : HW a0 Z) (hs : SF Z) {p1 p2 : Addr} {x1 : Int32} (hx1 : 0 ≤ x1.toInt ∧ x1.toInt ≤ 7) {x2 : Int32} (hx2 : 0 ≤ x2.toInt ∧ x2.toInt ≤ 7) {l1 : List Int32} (hl_l1 : (l1.length : Int) = (3 : Int32).toInt) (hb_l1 : ∀ x ∈ l1, 0 ≤ x.toInt ∧ x.toInt ≤ 65535) (hr0 : (x1 + x2).toInt ≤ (3 : Int32).toInt) {f_p1_0 f_p1_1 f_p1_2 f_p1_3 f_p1_4 f_p1_5 f_p1_6 : Value} {w_p2 : Bool} {ad_p2 : String} {F : List Ent} (mp2 : (p2, w_p2, ar ad_p2 .char (lm l1)) ∈ F) : Con Z EL y36 y36b 4 y36r (rmm 9 4 769 140) [(vr p1), (vr p2), (vi x1), (vi x2)] ((p1, true, oXmlElement f_p1_0 f_p1_1 f_p1_2 f_p1_3 f_p1_4 f_p1_5 f_p1_6 .null) :: F) (fun v D' => (∃ a1 a4 : Addr, ∃ g5 : Int32, ∃ gl7 : List Int32, (0 ≤ g5.toInt ∧ g5.toInt ≤ 16) ∧ ((0 : Int32) + x2).toInt ≤ g5.toInt ∧ (gl7.length : Int) = g5.toInt ∧ App 0 (List.replicate x2.toInt.toNat (0 : Int32)) (0 : Int32).toInt.toNat 0 gl7 l1 x1.toInt.toNat x2.toInt.toNat ∧ v = none ∧ (a4, true, ar "[B" .byte (lm gl7)) :: (a1, true, oStringBuilder (vr a4) (vi 0) (vi ((0 : Int32) + x2)) (vi 0)) :: (p1, true, oXmlElement f_p1_0 f_p1_1 f_p1_2 f_p1_3 f_p1_4 f_p1_5 f_p1_6 (vr a1)) :: F = D') ∨ (∃ a1 a9 : Addr, ∃ g10 : Int32, ∃ gl12 : List Int32, (0 ≤ g10.toInt ∧ g10.toInt ≤ 16) ∧ ((0 : Int32) + x2).toInt ≤ g10.toInt ∧ (gl12.length : Int) = (g10 <<< ((1 : Int32) &&& 31)).toInt ∧ App 0 (List.replicate x2.toInt.toNat (0 : Int32)) (0 : Int32).toInt.toNat 1 gl12 l1 x1.toInt.toNat x2.toInt.toNat ∧ v = none ∧ (a9, true, ar "[B" .byte (lm gl12)) :: (a1, true, oStringBuilder (vr a9) (vi 1) (vi ((0 : Int32) + x2)) (vi 0)) :: (p1, true, oXmlElement f_p1_0 f_p1_1 f_p1_2 f_p1_3 f_p1_4 f_p1_5 f_p1_6 (vr a1)) :: F = D')) := by
  refine Con.of (ls := #[rv p1, rv p2, iv x1, iv x2]) (by decide +kernel) rfl ?_
  refine W.aloadN d9_0 rfl rfl ?_
  refine W.getf d9_1 (wq hw 65 rfl) Via.refl m0 m7 ?_
  refine W.ifnonnullN d9_4 ?_
  refine W.aloadN d9_7 rfl rfl ?_
  refine W.new d9_8 (wq hw 86 rfl) (wq hw 87 rfl) (wq hw 88 rfl) (laStringBuilder hw) (by decide) (by decide) (fun a1 => ?_)
  show W _ _ _ _ _ _ _ _ _ _ _ _ 11 _ [(vr a1), (vr p1)]
  refine W.dup d9_11 rfl ?_
  refine W.iloadN d9_12 rfl ?_
  refine W.callI (as := [(vi x2)]) 2 [(vr a1), (vr p1)] d9_13 rfl (wq hw 89 rfl) (wq hw 90 rfl) (wq hw 88 rfl) (wq hw 91 rfl) (c9_init hw hs (hx1 := (by have := a_add x1 x2; have := q3; omega))) (by decide) pd_I_V rfl rfl rfl rfl (by decide) (fun v D' h => ?_)
  obtain ⟨a2, hl3, rfl, rfl⟩ := h
  show W _ _ _ _ _ _ _ _ _ _ _ _ 16 _ [(vr a1), (vr p1)]
  refine W.putf (D' := (a2, true, ar "[B" .byte (lm (List.replicate x2.toInt.toNat (0 : Int32)))) :: (a1, true, oStringBuilder (vr a2) (vi 0) (vi 0) (vi 0)) :: (p1, true, oXmlElement f_p1_0 f_p1_1 f_p1_2 f_p1_3 f_p1_4 f_p1_5 f_p1_6 (vr a1)) :: F) 2 7 d9_16 (wq hw 65 rfl) Via.refl rfl rfl (Or.inl (wq hw 66 rfl)) (wq hw 3 rfl) pfLjava_lang_StringBuilder_ rfl rfl rfl ?_
  refine W.aloadN d9_19 rfl rfl ?_
  refine W.getf d9_20 (wq hw 65 rfl) Via.refl m2 m7 ?_
  refine W.aloadN d9_23 rfl rfl ?_
  refine W.iloadN d9_24 rfl ?_
  refine W.iloadN d9_25 rfl ?_
  refine W.callV (as := [(vr p2), (vi x1), (vi x2)]) 0 [] d9_26 (wq hw 104 rfl) (wq hw 105 rfl) (wq hw 107 rfl) (wq hw 107 rfl) (wq hw 106 rfl) (wq hw 88 rfl) (wq hw 108 rfl) (Hp.exa m1) (c11_append hw hs (hx1 := hx1) (hx2 := hx2) (hx3 := (by decide)) (hr0 := by have := a_add x1 x2; have := q3; omega) (hr1 := by have := q0; have := a_add x1 x2; have := q3; omega) (l1 := l1) (hl_l1 := hl_l1) (hb_l1 := hb_l1) (l2 := (List.replicate x2.toInt.toNat (0 : Int32))) (hl_l2 := hl3) (mp2 := (mS mp2))) (by decide) pd__CII_Ljava_lang_StringBuilder_ rfl rfl rfl rfl (by decide) (fun v D' h => ?_)
  rcases h with ⟨a4, g5, gl7, hg5, hf6, hgl7, hp8, rfl, rfl⟩ | ⟨a9, g10, gl12, hg10, hf11, hgl12, hp13, rfl, rfl⟩
  ·
   show W _ _ _ _ _ _ _ _ _ _ _ _ 29 _ [(vr a1)]
   refine W.popv d9_29 rfl ?_
   exact W.return_ d9_30 rfl (by decide) (Or.inl ⟨a1, a4, g5, gl7, hg5, hf6, hgl7, hp8, rfl, rfl⟩)
  ·
   show W _ _ _ _ _ _ _ _ _ _ _ _ 29 _ [(vr a1)]
   refine W.popv d9_29 rfl ?_
   exact W.return_ d9_30 rfl (by decide) (Or.inr ⟨a1, a9, g10, gl12, hg10, hf11, hgl12, hp13, rfl, rfl⟩)
theorem d6_12 : decode prog_64_method_10_code 12 = .ok (.aload_n 0, 1) := by decide +kernel
theorem d6_13 : decode prog_64_method_10_code 13 = .ok (.getfield 55, 3) := by decide +kernel
theorem d6_16 : decode prog_64_method_10_code 16 = .ok (.invokevirtual 61, 3) := by decide +kernel
theorem d18_0 : decode jdk_67_method_42_code 0 = .ok (.new 18, 3) := by decide +kernel
theorem laString {Z a0} (hw : HW a0 Z) : LaidAll Z a0 "java/lang/String" [("java/lang/String", "value", "[B", .null), ("java/lang/String", "coder", "B", (vi 0))] := ⟨⟨Or.inr (wq hw 9 rfl), (.array .byte), by decide, rfl⟩, ⟨⟨Or.inr (wq hw 10 rfl), .byte, by decide, rfl⟩, trivial⟩⟩
theorem d18_3 : decode jdk_67_method_42_code 3 = .ok (.dup, 1) := by decide +kernel
theorem d18_4 : decode jdk_67_method_42_code 4 = .ok (.aload_n 0, 1) := by decide +kernel
theorem d18_5 : decode jdk_67_method_42_code 5 = .ok (.invokespecial 137, 3) := by decide +kernel
theorem d19_0 : decode jdk_42_method_53_code 0 = .ok (.aload_n 0, 1) := by decide +kernel
theorem d19_1 : decode jdk_42_method_53_code 1 = .ok (.aload_n 1, 1) := by decide +kernel
theorem d19_2 : decode jdk_42_method_53_code 2 = .ok (.aconst_null, 1) := by decide +kernel
theorem d19_3 : decode jdk_42_method_53_code 3 = .ok (.invokespecial 489, 3) := by decide +kernel
theorem d20_0 : decode jdk_42_method_150_code 0 = .ok (.aload_n 0, 1) := by decide +kernel
theorem d20_1 : decode jdk_42_method_150_code 1 = .ok (.invokespecial 1, 3) := by decide +kernel
theorem d20_4 : decode jdk_42_method_150_code 4 = .ok (.aload_n 1, 1) := by decide +kernel
theorem d20_5 : decode jdk_42_method_150_code 5 = .ok (.invokevirtual 552, 3) := by decide +kernel
theorem d21_0 : decode jdk_68_method_64_code 0 = .ok (.aload_n 0, 1) := by decide +kernel
theorem d21_1 : decode jdk_68_method_64_code 1 = .ok (.getfield 15, 3) := by decide +kernel
theorem d21_4 : decode jdk_68_method_64_code 4 = .ok (.areturn, 1) := by decide +kernel
abbrev y37 : MethodName := ⟨"java/lang/AbstractStringBuilder", "getValue", "()[B"⟩
abbrev y37b : ByteArray := jdk_68_method_64_code
abbrev y37r : Option Jvm.ClassFile.FieldType := (Option.some (Jvm.ClassFile.FieldType.array Jvm.ClassFile.FieldType.byte))
theorem c43_getValue {Z a0} (hw : HW a0 Z) (hs : SF Z) {p1 p2 : Addr} {f_p1_1 f_p1_2 f_p1_3 : Value} {w_p1 : Bool} {F : List Ent} (mp1 : (p1, w_p1, oStringBuilder (vr p2) f_p1_1 f_p1_2 f_p1_3) ∈ F) : Con Z EL y37 y37b 1 y37r (rmm 0 0 0 0) [(vr p1)] (F) (fun v D' => (v = some (vr p2) ∧ F = D')) := by
  refine Con.of (ls := #[rv p1]) (by decide +kernel) rfl ?_
  refine W.aloadN d21_0 rfl rfl ?_
  refine W.getf d21_1 (wq hw 100 rfl) Via.refl mp1 m0 ?_
  exact W.areturn d21_4 rfl rfl rfl (by decide) ⟨rfl, rfl⟩
theorem pd___B : parseMethodDescriptor "()[B" = some ⟨[], some (.array .byte)⟩ := by decide +kernel
theorem d20_8 : decode jdk_42_method_150_code 8 = .ok (.astore_n 3, 1) := by decide +kernel
theorem d20_9 : decode jdk_42_method_150_code 9 = .ok (.aload_n 1, 1) := by decide +kernel
theorem d20_10 : decode jdk_42_method_150_code 10 = .ok (.invokevirtual 549, 3) := by decide +kernel
theorem d22_0 : decode jdk_67_method_93_code 0 = .ok (.aload_n 0, 1) := by decide +kernel
theorem d22_1 : decode jdk_67_method_93_code 1 = .ok (.invokespecial 343, 3) := by decide +kernel
theorem d23_0 : decode jdk_68_method_6_code 0 = .ok (.aload_n 0, 1) := by decide +kernel
theorem d23_1 : decode jdk_68_method_6_code 1 = .ok (.getfield 79, 3) := by decide +kernel
theorem d23_4 : decode jdk_68_method_6_code 4 = .ok (.ireturn, 1) := by decide +kernel
abbrev y38 : MethodName := ⟨"java/lang/AbstractStringBuilder", "length", "()I"⟩
abbrev y38b : ByteArray := jdk_68_method_6_code
abbrev y38r : Option Jvm.ClassFile.FieldType := (Option.some Jvm.ClassFile.FieldType.int)
theorem c45_length {Z a0} (hw : HW a0 Z) (hs : SF Z) {p1 : Addr} {x1 : Int32} (hx1 : 0 ≤ x1.toInt ∧ x1.toInt ≤ 15) {f_p1_0 f_p1_1 f_p1_3 : Value} {w_p1 : Bool} {F : List Ent} (mp1 : (p1, w_p1, oStringBuilder f_p1_0 f_p1_1 (vi x1) f_p1_3) ∈ F) : Con Z EL y38 y38b 1 y38r (rmm 0 0 0 0) [(vr p1)] (F) (fun v D' => (v = some (vi x1) ∧ F = D')) := by
  refine Con.of (ls := #[rv p1]) (by decide +kernel) rfl ?_
  refine W.aloadN d23_0 rfl rfl ?_
  refine W.getf d23_1 (wq hw 120 rfl) Via.refl mp1 m2 ?_
  exact W.ireturn d23_4 rfl (Or.inl rfl) rfl (by decide) ⟨rfl, rfl⟩
theorem d22_4 : decode jdk_67_method_93_code 4 = .ok (.ireturn, 1) := by decide +kernel
abbrev y39 : MethodName := ⟨"java/lang/StringBuilder", "length", "()I"⟩
abbrev y39b : ByteArray := jdk_67_method_93_code
abbrev y39r : Option Jvm.ClassFile.FieldType := (Option.some Jvm.ClassFile.FieldType.int)
theorem c44_length {Z a0} (hw : HW a0 Z) (hs : SF Z) {p1 : Addr} {x1 : Int32} (hx1 : 0 ≤ x1.toInt ∧ x1.toInt ≤ 15) {f_p1_0 f_p1_1 f_p1_3 : Value} {w_p1 : Bool} {F : List Ent} (mp1 : (p1, w_p1, oStringBuilder f_p1_0 f_p1_1 (vi x1) f_p1_3) ∈ F) : Con Z EL y39 y39b 1 y39r (rmm 1 0 0 12) [(vr p1)] (F) (fun v D' => (v = some (vi x1) ∧ F = D')) := by
  refine Con.of (ls := #[rv p1]) (by decide +kernel) rfl ?_
  refine W.aloadN d22_0 rfl rfl ?_
  refine W.callUp (as := []) 0 [] d22_1 (wq hw 162 rfl) (same_self (by rfl) (by decide) (wq hw 158 rfl) (wq hw 123 rfl) (wq hw 125 rfl)) (wq hw 158 rfl) (wq hw 111 rfl) (by decide) (wq hw 96 rfl) (wq hw 163 rfl) (Hp.ins mp1) (c45_length hw hs (hx1 := hx1) (mp1 := mp1)) pd__I rfl rfl rfl rfl (by decide) (fun v D' h => ?_)
  obtain ⟨rfl, rfl⟩ := h
  show W _ _ _ _ _ _ _ _ _ _ _ _ 4 _ [(vi x1)]
  exact W.ireturn d22_4 rfl (Or.inl rfl) rfl (by decide) ⟨rfl, rfl⟩
theorem d20_13 : decode jdk_42_method_150_code 13 = .ok (.istore 4, 2) := by decide +kernel
theorem d20_15 : decode jdk_42_method_150_code 15 = .ok (.aload_n 1, 1) := by decide +kernel
theorem d20_16 : decode jdk_42_method_150_code 16 = .ok (.invokevirtual 1047, 3) := by decide +kernel
theorem d20_19 : decode jdk_42_method_150_code 19 = .ok (.ifCond .eq 22, 3) := by decide +kernel
theorem d20_22 : decode jdk_42_method_150_code 22 = .ok (.aload_n 0, 1) := by decide +kernel
theorem d20_23 : decode jdk_42_method_150_code 23 = .ok (.iconst 0, 1) := by decide +kernel
theorem d20_24 : decode jdk_42_method_150_code 24 = .ok (.putfield 15, 3) := by decide +kernel
theorem d20_27 : decode jdk_42_method_150_code 27 = .ok (.aload_n 0, 1) := by decide +kernel
theorem d20_28 : decode jdk_42_method_150_code 28 = .ok (.aload_n 3, 1) := by decide +kernel
theorem d20_29 : decode jdk_42_method_150_code 29 = .ok (.iconst 0, 1) := by decide +kernel
theorem d20_30 : decode jdk_42_method_150_code 30 = .ok (.iload 4, 2) := by decide +kernel
theorem d20_32 : decode jdk_42_method_150_code 32 = .ok (.invokestatic 54, 3) := by decide +kernel
theorem d24_0 : decode jdk_65_method_132_code 0 = .ok (.iload_n 1, 1) := by decide +kernel
theorem d24_1 : decode jdk_65_method_132_code 1 = .ok (.ifCond .ne 9, 3) := by decide +kernel
theorem d24_4 : decode jdk_65_method_132_code 4 = .ok (.iload_n 2, 1) := by decide +kernel
theorem d24_5 : decode jdk_65_method_132_code 5 = .ok (.aload_n 0, 1) := by decide +kernel
theorem d24_6 : decode jdk_65_method_132_code 6 = .ok (.arraylength, 1) := by decide +kernel
theorem d24_7 : decode jdk_65_method_132_code 7 = .ok (.if_icmp .eq 10, 3) := by decide +kernel
theorem d24_17 : decode jdk_65_method_132_code 17 = .ok (.aload_n 0, 1) := by decide +kernel
theorem d24_18 : decode jdk_65_method_132_code 18 = .ok (.invokevirtual 310, 3) := by decide +kernel
theorem d24_21 : decode jdk_65_method_132_code 21 = .ok (.checkcast 311, 3) := by decide +kernel
theorem d24_24 : decode jdk_65_method_132_code 24 = .ok (.areturn, 1) := by decide +kernel
theorem d24_10 : decode jdk_65_method_132_code 10 = .ok (.aload_n 0, 1) := by decide +kernel
theorem d24_11 : decode jdk_65_method_132_code 11 = .ok (.iload_n 1, 1) := by decide +kernel
theorem d24_12 : decode jdk_65_method_132_code 12 = .ok (.iload_n 2, 1) := by decide +kernel
theorem d24_13 : decode jdk_65_method_132_code 13 = .ok (.invokestatic 339, 3) := by decide +kernel
theorem d54_0 : decode jdk_65_method_133_code 0 = .ok (.iload_n 1, 1) := by decide +kernel
theorem d54_1 : decode jdk_65_method_133_code 1 = .ok (.iload_n 2, 1) := by decide +kernel
theorem d54_2 : decode jdk_65_method_133_code 2 = .ok (.invokestatic 343, 3) := by decide +kernel
theorem d55_0 : decode jdk_65_method_131_code 0 = .ok (.iload_n 1, 1) := by decide +kernel
theorem d55_1 : decode jdk_65_method_131_code 1 = .ok (.iload_n 0, 1) := by decide +kernel
theorem d55_2 : decode jdk_65_method_131_code 2 = .ok (.if_icmp .ge 35, 3) := by decide +kernel
theorem d55_37 : decode jdk_65_method_131_code 37 = .ok (.return_, 1) := by decide +kernel
abbrev y40 : MethodName := ⟨"java/util/Arrays", "checkLength", "(II)V"⟩
abbrev y40b : ByteArray := jdk_65_method_131_code
abbrev y40r : Option Jvm.ClassFile.FieldType := (Option.none : Option Jvm.ClassFile.FieldType)
theorem c48_checkLength {Z a0} (hw : HW a0 Z) (hs : SF Z) {x1 : Int32} (hx1 : 0 ≤ x1.toInt ∧ x1.toInt ≤ 15) {F : List Ent} : Con Z EL y40 y40b 2 y40r (rmm 0 0 0 0) [(vi 0), (vi x1)] (F) (fun v D' => (v = none ∧ F = D')) := by
  refine Con.of (ls := #[iv 0, iv x1]) (by decide +kernel) rfl ?_
  refine W.iloadN d55_0 rfl ?_
  refine W.iloadN d55_1 rfl ?_
  refine W.icmpY 37 d55_2 (y_ge (by have := q0; omega)) (by decide) ?_
  exact W.return_ d55_37 rfl (by decide) ⟨rfl, rfl⟩
theorem pd_II_V : parseMethodDescriptor "(II)V" = some ⟨[.int, .int], none⟩ := by decide +kernel
theorem d54_5 : decode jdk_65_method_133_code 5 = .ok (.iload_n 2, 1) := by decide +kernel
theorem d54_6 : decode jdk_65_method_133_code 6 = .ok (.iload_n 1, 1) := by decide +kernel
theorem d54_7 : decode jdk_65_method_133_code 7 = .ok (.isub, 1) := by decide +kernel
theorem d54_8 : decode jdk_65_method_133_code 8 = .ok (.istore_n 3, 1) := by decide +kernel
theorem d54_9 : decode jdk_65_method_133_code 9 = .ok (.iload_n 3, 1) := by decide +kernel
theorem d54_10 : decode jdk_65_method_133_code 10 = .ok (.newarray .byte, 2) := by decide +kernel
theorem d54_12 : decode jdk_65_method_133_code 12 = .ok (.astore 4, 2) := by decide +kernel
theorem d54_14 : decode jdk_65_method_133_code 14 = .ok (.aload_n 0, 1) := by decide +kernel
theorem d54_15 : decode jdk_65_method_133_code 15 = .ok (.iload_n 1, 1) := by decide +kernel
theorem d54_16 : decode jdk_65_method_133_code 16 = .ok (.aload 4, 2) := by decide +kernel
theorem d54_18 : decode jdk_65_method_133_code 18 = .ok (.iconst 0, 1) := by decide +kernel
theorem d54_19 : decode jdk_65_method_133_code 19 = .ok (.aload_n 0, 1) := by decide +kernel
theorem d54_20 : decode jdk_65_method_133_code 20 = .ok (.arraylength, 1) := by decide +kernel
theorem d54_21 : decode jdk_65_method_133_code 21 = .ok (.iload_n 1, 1) := by decide +kernel
theorem d54_22 : decode jdk_65_method_133_code 22 = .ok (.isub, 1) := by decide +kernel
theorem d54_23 : decode jdk_65_method_133_code 23 = .ok (.iload_n 3, 1) := by decide +kernel
theorem d54_24 : decode jdk_65_method_133_code 24 = .ok (.invokestatic 304, 3) := by decide +kernel
theorem c49_min {Z a0} (hw : HW a0 Z) (hs : SF Z) {x1 : Int32} (hx1 : 0 ≤ x1.toInt ∧ x1.toInt ≤ 127) {x2 : Int32} (hx2 : 0 ≤ x2.toInt ∧ x2.toInt ≤ 15) {F : List Ent} : Con Z EL y14 y14b 2 y14r (rmm 0 0 0 0) [(vi x1), (vi x2)] (F) (fun v D' => (Cd .gt x1 x2 ∧ v = some (vi x2) ∧ F = D') ∨ (¬ Cd .gt x1 x2 ∧ v = some (vi x1) ∧ F = D')) := by
  refine Con.of (ls := #[iv x1, iv x2]) (by decide +kernel) rfl ?_
  refine W.iloadN d53_0 rfl ?_
  refine W.iloadN d53_1 rfl ?_
  refine W.icmp 9 d53_2 (by decide) (fun h1 => ?_) (fun h1 => ?_)
  ·
   have ih1 := t_gt h1
   refine W.iloadN d53_9 rfl ?_
   exact W.ireturn d53_10 rfl (Or.inl rfl) rfl (by decide) (Or.inl ⟨h1, rfl, rfl⟩)
  ·
   have ih1 := f_gt h1
   refine W.iloadN d53_5 rfl ?_
   refine W.goto 10 d53_6 (by decide) ?_
   exact W.ireturn d53_10 rfl (Or.inl rfl) rfl (by decide) (Or.inr ⟨h1, rfl, rfl⟩)
theorem d54_27 : decode jdk_65_method_133_code 27 = .ok (.invokestatic 150, 3) := by decide +kernel
theorem d54_30 : decode jdk_65_method_133_code 30 = .ok (.aload 4, 2) := by decide +kernel
theorem d54_32 : decode jdk_65_method_133_code 32 = .ok (.areturn, 1) := by decide +kernel
abbrev y41 : MethodName := ⟨"java/util/Arrays", "copyOfRangeByte", "([BII)[B"⟩
abbrev y41b : ByteArray := jdk_65_method_133_code
abbrev y41r : Option Jvm.ClassFile.FieldType := (Option.some (Jvm.ClassFile.FieldType.array Jvm.ClassFile.FieldType.byte))
theorem c47_copyOfRangeByte {Z a0} (hw : HW a0 Z) (hs : SF Z) {p1 : Addr} {x1 : Int32} (hx1 : 0 ≤ x1.toInt ∧ x1.toInt ≤ 15) {x2 : Int32} (hx2 : 0 ≤ x2.toInt ∧ x2.toInt ≤ 127) {l1 : List Int32} (hl_l1 : (l1.length : Int) = x2.toInt) (hr0 : x1.toInt < x2.toInt) {w_p1 : Bool} {ad_p1 : String} {F : List Ent} (mp1 : (p1, w_p1, ar ad_p1 .byte (lm l1)) ∈ F) : Con Z EL y41 y41b 5 y41r (rmm 1 1 255 48) [(vr p1), (vi 0), (vi x1)] (F) (fun v D' => (∃ a1 : Addr, Cd .gt x2 x1 ∧ (((cpl l1 (0 : Int32).toInt.toNat (List.replicate x1.toInt.toNat (0 : Int32)) (0 : Int32).toInt.toNat x1.toInt.toNat)).length : Int) = x1.toInt ∧ v = some (vr a1) ∧ (a1, true, ar "[B" .byte (lm (cpl l1 (0 : Int32).toInt.toNat (List.replicate x1.toInt.toNat (0 : Int32)) (0 : Int32).toInt.toNat x1.toInt.toNat))) :: F = D')) := by
  refine Con.of (ls := #[rv p1, iv 0, iv x1, uu, uu]) (by decide +kernel) rfl ?_
  refine W.iloadN d54_0 rfl ?_
  refine W.iloadN d54_1 rfl ?_
  refine W.callS (as := [(vi 0), (vi x1)]) 0 [] d54_2 (wq hw 296 rfl) (wq hw 297 rfl) (wq hw 167 rfl) (wq hw 298 rfl) (c48_checkLength hw hs (hx1 := hx1)) (by decide) pd_II_V rfl rfl rfl rfl (by decide) (fun v D' h => ?_)
  obtain ⟨rfl, rfl⟩ := h
  show W _ _ _ _ _ _ _ _ _ _ _ _ 5 _ []
  refine W.iloadN d54_5 rfl ?_
  refine W.iloadN d54_6 rfl ?_
  refine W.isubK x1 d54_7 (z_sub0 x1) ?_
  refine W.istoreN (ls' := #[rv p1, iv 0, iv x1, iv x1, uu]) d54_8 rfl ?_
  refine W.iloadN d54_9 rfl ?_
  have hl2 := len_rep (z := x1) (by have := q0; omega)
  refine W.newarrB 255 d54_10 (wq hw 8 rfl) (by have := q0; have := q255; omega) (by decide) (by decide) (fun a1 => ?_)
  show W _ _ _ _ _ _ _ _ _ _ _ _ 12 _ [(vr a1)]
  refine W.astore (ls' := #[rv p1, iv 0, iv x1, iv x1, rv a1]) d54_12 rfl rfl ?_
  refine W.aloadN d54_14 rfl rfl ?_
  refine W.iloadN d54_15 rfl ?_
  refine W.aload 4 d54_16 rfl rfl ?_
  refine W.iconst (0) d54_18 (by decide) ?_
  refine W.aloadN d54_19 rfl rfl ?_
  refine W.alenS (l := l1) (z := x2) d54_20 (mS mp1) hl_l1 ?_
  refine W.iloadN d54_21 rfl ?_
  refine W.isubK x2 d54_22 (z_sub0 x2) ?_
  refine W.iloadN d54_23 rfl ?_
  refine W.callS (as := [(vi x2), (vi x1)]) 4 [(vi 0), (vr a1), (vi 0), (vr p1)] d54_24 (wq hw 286 rfl) (wq hw 287 rfl) (wq hw 279 rfl) (wq hw 288 rfl) (c49_min hw hs (hx1 := hx2) (hx2 := hx1)) (by decide) pd_II_I rfl rfl rfl rfl (by decide) (fun v D' h => ?_)
  rcases h with ⟨h1, rfl, rfl⟩ | ⟨h2, rfl, rfl⟩
  ·
   have ih1 := t_gt h1
   show W _ _ _ _ _ _ _ _ _ _ _ _ 27 _ [(vi x1), (vi 0), (vr a1), (vi 0), (vr p1)]
   have hl3 := len_cplI (l1 := l1) (l2 := (List.replicate x1.toInt.toNat (0 : Int32))) (s := (0 : Int32)) (d := (0 : Int32)) (n := x1) hl_l1 hl2 (by have := q0; omega)
   refine W.cpyS (l1 := l1) (l2 := (List.replicate x1.toInt.toNat (0 : Int32))) (D' := (a1, true, ar "[B" .byte (lm (cpl l1 (0 : Int32).toInt.toNat (List.replicate x1.toInt.toNat (0 : Int32)) (0 : Int32).toInt.toNat x1.toInt.toNat))) :: F) 0 0 d54_27 (wq hw 289 rfl) (wq hw 292 rfl) (wq hw 290 rfl) (wq hw 291 rfl) (mS mp1) rfl rfl (by have := hl_l1; have := hl2; have := q0; omega) rfl rfl (by decide) rfl ?_
   refine W.aload 4 d54_30 rfl rfl ?_
   exact W.areturn d54_32 rfl rfl rfl (by decide) ⟨a1, h1, hl3, rfl, rfl⟩
  ·
   exact absurd h2 (Classical.not_not.mpr (y_gt (by omega)))
theorem pd__BII__B : parseMethodDescriptor "([BII)[B" = some ⟨[(.array .byte), .int, .int], some (.array .byte)⟩ := by decide +kernel
theorem d24_16 : decode jdk_65_method_132_code 16 = .ok (.areturn, 1) := by decide +kernel
abbrev y42 : MethodName := ⟨"java/util/Arrays", "copyOfRange", "([BII)[B"⟩
abbrev y42b : ByteArray := jdk_65_method_132_code
abbrev y42r : Option Jvm.ClassFile.FieldType := (Option.some (Jvm.ClassFile.FieldType.array Jvm.ClassFile.FieldType.byte))
theorem c46_copyOfRange {Z a0} (hw : HW a0 Z) (hs : SF Z) {p1 : Addr} {x1 : Int32} (hx1 : 0 ≤ x1.toInt ∧ x1.toInt ≤ 15) {x2 : Int32} (hx2 : 0 ≤ x2.toInt ∧ x2.toInt ≤ 127) {l1 : List Int32} (hl_l1 : (l1.length : Int) = x2.toInt) (hr0 : x1.toInt ≤ x2.toInt) {w_p1 : Bool} {F : List Ent} (mp1 : (p1, w_p1, ar "[B" .byte (lm l1)) ∈ F) : Con Z EL y42 y42b 3 y42r (rmm 2 1 255 64) [(vr p1), (vi 0), (vi x1)] (F) (fun v D' => (∃ a1 : Addr, Cd .eq x1 x2 ∧ v = some (vr a1) ∧ (a1, true, ar "[B" .byte (lm l1)) :: F = D') ∨ (∃ a2 : Addr, ¬ Cd .eq x1 x2 ∧ Cd .gt x2 x1 ∧ (((cpl l1 (0 : Int32).toInt.toNat (List.replicate x1.toInt.toNat (0 : Int32)) (0 : Int32).toInt.toNat x1.toInt.toNat)).length : Int) = x1.toInt ∧ v = some (vr a2) ∧ (a2, true, ar "[B" .byte (lm (cpl l1 (0 : Int32).toInt.toNat (List.replicate x1.toInt.toNat (0 : Int32)) (0 : Int32).toInt.toNat x1.toInt.toNat))) :: F = D')) := by
  refine Con.of (ls := #[rv p1, iv 0, iv x1]) (by decide +kernel) rfl ?_
  refine W.iloadN d24_0 rfl ?_
  refine W.ifN d24_1 (n_ne (by decide)) ?_
  refine W.iloadN d24_4 rfl ?_
  refine W.aloadN d24_5 rfl rfl ?_
  refine W.alenS (l := l1) (z := x2) d24_6 mp1 hl_l1 ?_
  refine W.icmp 17 d24_7 (by decide) (fun h1 => ?_) (fun h1 => ?_)
  ·
   have ih1 := t_eq h1
   refine W.aloadN d24_17 rfl rfl ?_
   refine W.cloneS (l := l1) 0 255 d24_18 (wq hw 169 rfl) (wq hw 170 rfl) (wq hw 174 rfl) (wq hw 172 rfl) (wq hw 173 rfl) (wq hw 175 rfl) mp1 (by decide) (by have := hl_l1; have := q255; omega) rfl rfl (by decide) (fun a1 => ?_)
   show W _ _ _ _ _ _ _ _ _ _ _ _ 21 _ [(vr a1)]
   refine W.castY d24_21 (wq hw 176 rfl) (Hp.insA m0 (by decide)) ?_
   exact W.areturn d24_24 rfl rfl rfl (by decide) (Or.inl ⟨a1, h1, rfl, rfl⟩)
  ·
   have ih1 := f_eq h1
   refine W.aloadN d24_10 rfl rfl ?_
   refine W.iloadN d24_11 rfl ?_
   refine W.iloadN d24_12 rfl ?_
   refine W.callS (as := [(vr p1), (vi 0), (vi x1)]) 0 [] d24_13 (wq hw 293 rfl) (wq hw 294 rfl) (wq hw 167 rfl) (wq hw 295 rfl) (c47_copyOfRangeByte hw hs (hx1 := hx1) (hx2 := hx2) (hr0 := by omega) (l1 := l1) (hl_l1 := hl_l1) (mp1 := mp1)) (by decide) pd__BII__B rfl rfl rfl rfl (by decide) (fun v D' h => ?_)
   obtain ⟨a2, h2, hl3, rfl, rfl⟩ := h
   have ih2 := t_gt h2
   show W _ _ _ _ _ _ _ _ _ _ _ _ 16 _ [(vr a2)]
   exact W.areturn d24_16 rfl rfl rfl (by decide) (Or.inr ⟨a2, h1, h2, hl3, rfl, rfl⟩)
theorem d20_35 : decode jdk_42_method_150_code 35 = .ok (.putfield 9, 3) := by decide +kernel
theorem d20_38 : decode jdk_42_method_150_code 38 = .ok (.goto 59, 3) := by decide +kernel
theorem d20_97 : decode jdk_42_method_150_code 97 = .ok (.return_, 1) := by decide +kernel
abbrev y43 : MethodName := ⟨"java/lang/String", "<init>", "(Ljava/lang/AbstractStringBuilder;Ljava/lang/Void;)V"⟩
abbrev y43b : ByteArray := jdk_42_method_150_code
abbrev y43r : Option Jvm.ClassFile.FieldType := (Option.none : Option Jvm.ClassFile.FieldType)
theorem c42_init {Z a0} (hw : HW a0 Z) (hs : SF Z) {p1 p2 p3 : Addr} {x1 : Int32} (hx1 : 0 ≤ x1.toInt ∧ x1.toInt ≤ 15) {x2 : Int32} (hx2 : 0 ≤ x2.toInt ∧ x2.toInt ≤ 127) {l1 : List Int32} (hl_l1 : (l1.length : Int) = x2.toInt) (hr0 : x1.toInt ≤ x2.toInt) {f_p2_3 : Value} {w_p2 : Bool} {w_p3 : Bool} {F : List Ent} (mp2 : (p2, w_p2, oStringBuilder (vr p3) (vi 0) (vi x1) f_p2_3) ∈ F) (mp3 : (p3, w_p3, ar "[B" .byte (lm l1)) ∈ F) : Con Z EL y43 y43b 5 y43r (rmm 3 1 255 79) [(vr p1), (vr p2), .null] ((p1, true, oString .null (vi 0)) :: F) (fun v D' => (∃ a1 : Addr, Cd .eq x1 x2 ∧ v = none ∧ (a1, true, ar "[B" .byte (lm l1)) :: (p1, true, oString (vr a1) (vi 0)) :: F = D') ∨ (∃ a2 : Addr, ¬ Cd .eq x1 x2 ∧ Cd .gt x2 x1 ∧ (((cpl l1 (0 : Int32).toInt.toNat (List.replicate x1.toInt.toNat (0 : Int32)) (0 : Int32).toInt.toNat x1.toInt.toNat)).length : Int) = x1.toInt ∧ v = none ∧ (a2, true, ar "[B" .byte (lm (cpl l1 (0 : Int32).toInt.toNat (List.replicate x1.toInt.toNat (0 : Int32)) (0 : Int32).toInt.toNat x1.toInt.toNat))) :: (p1, true, oString (vr a2) (vi 0)) :: F = D')) := by
  refine Con.of (ls := #[rv p1, rv p2, .val .null, uu, uu]) (by decide +kernel) rfl ?_
  refine W.aloadN d20_0 rfl rfl ?_
  refine W.initO 0 d20_1 (wq hw 150 rfl) (wq hw 33 rfl) (wq hw 34 rfl) rfl rfl (by decide) ?_
  refine W.aloadN d20_4 rfl rfl ?_
  refine W.callV (as := []) 0 [] d20_5 (wq hw 151 rfl) (wq hw 152 rfl) (wq hw 154 rfl) (wq hw 154 rfl) (wq hw 153 rfl) (wq hw 96 rfl) (wq hw 155 rfl) (Hp.exa (mS mp2)) (c43_getValue hw hs (mp1 := (mS mp2))) (by decide) pd___B rfl rfl rfl rfl (by decide) (fun v D' h => ?_)
  obtain ⟨rfl, rfl⟩ := h
  show W _ _ _ _ _ _ _ _ _ _ _ _ 8 _ [(vr p3)]
  refine W.astoreN (ls' := #[rv p1, rv p2, .val .null, rv p3, uu]) d20_8 rfl rfl ?_
  refine W.aloadN d20_9 rfl rfl ?_
  refine W.callVN (as := []) 0 [] d20_10 (wq hw 156 rfl) (wq hw 157 rfl) (by rfl) (wq hw 123 rfl) (wq hw 125 rfl) (wq hw 159 rfl) (wq hw 160 rfl) (wq hw 88 rfl) (wq hw 161 rfl) (Hp.exa (mS mp2)) (c44_length hw hs (hx1 := hx1) (mp1 := (mS mp2))) (by decide) pd__I rfl rfl rfl rfl (by decide) (fun v D' h => ?_)
  obtain ⟨rfl, rfl⟩ := h
  show W _ _ _ _ _ _ _ _ _ _ _ _ 13 _ [(vi x1)]
  refine W.istore (ls' := #[rv p1, rv p2, .val .null, rv p3, iv x1]) d20_13 rfl ?_
  refine W.aloadN d20_15 rfl rfl ?_
  refine W.callV (as := []) 0 [] d20_16 (wq hw 164 rfl) (wq hw 133 rfl) (wq hw 135 rfl) (wq hw 135 rfl) (wq hw 134 rfl) (wq hw 96 rfl) (wq hw 136 rfl) (Hp.exa (mS mp2)) (c21_isLatin1 hw hs (mp1 := (mS mp2))) (by decide) pd__Z rfl rfl rfl rfl (by decide) (fun v D' h => ?_)
  obtain ⟨rfl, rfl⟩ := h
  show W _ _ _ _ _ _ _ _ _ _ _ _ 19 _ [(vi 1)]
  refine W.ifN d20_19 (n_eq (by decide)) ?_
  refine W.aloadN d20_22 rfl rfl ?_
  refine W.iconst (0) d20_23 (by decide) ?_
  refine W.putf (D' := (p1, true, oString .null (vi 0)) :: F) 0 1 d20_24 (wq hw 80 rfl) Via.refl rfl rfl (Or.inr ⟨(wq hw 10 rfl), rfl, rfl⟩) (wq hw 7 rfl) pfB (nw_byte (by decide)) (ft_byte (by decide)) rfl ?_
  refine W.aloadN d20_27 rfl rfl ?_
  refine W.aloadN d20_28 rfl rfl ?_
  refine W.iconst (0) d20_29 (by decide) ?_
  refine W.iload d20_30 rfl ?_
  refine W.callS (as := [(vr p3), (vi 0), (vi x1)]) 1 [(vr p1)] d20_32 (wq hw 165 rfl) (wq hw 166 rfl) (wq hw 167 rfl) (wq hw 168 rfl) (c46_copyOfRange hw hs (hx1 := hx1) (hx2 := hx2) (hr0 := by omega) (l1 := l1) (hl_l1 := hl_l1) (mp1 := (mS mp3))) (by decide) pd__BII__B rfl rfl rfl rfl (by decide) (fun v D' h => ?_)
  rcases h with ⟨a1, h1, rfl, rfl⟩ | ⟨a2, h2, h3, hl3, rfl, rfl⟩
  ·
   have ih1 := t_eq h1
   show W _ _ _ _ _ _ _ _ _ _ _ _ 35 _ [(vr a1), (vr p1)]
   refine W.putf (D' := (a1, true, ar "[B" .byte (lm l1)) :: (p1, true, oString (vr a1) (vi 0)) :: F) 1 0 d20_35 (wq hw 73 rfl) Via.refl rfl rfl (Or.inr ⟨(wq hw 9 rfl), rfl, rfl⟩) (wq hw 7 rfl) pf_B rfl rfl rfl ?_
   refine W.goto 97 d20_38 (by decide) ?_
   exact W.return_ d20_97 rfl (by decide) (Or.inl ⟨a1, h1, rfl, rfl⟩)
  ·
   have ih2 := f_eq h2
   have ih3 := t_gt h3
   show W _ _ _ _ _ _ _ _ _ _ _ _ 35 _ [(vr a2), (vr p1)]
   refine W.putf (D' := (a2, true, ar "[B" .byte (lm (cpl l1 (0 : Int32).toInt.toNat (List.replicate x1.toInt.toNat (0 : Int32)) (0 : Int32).toInt.toNat x1.toInt.toNat))) :: (p1, true, oString (vr a2) (vi 0)) :: F) 1 0 d20_35 (wq hw 73 rfl) Via.refl rfl rfl (Or.inr ⟨(wq hw 9 rfl), rfl, rfl⟩) (wq hw 7 rfl) pf_B rfl rfl rfl ?_
   refine W.goto 97 d20_38 (by decide) ?_
   exact W.return_ d20_97 rfl (by decide) (Or.inr ⟨a2, h2, h3, hl3, rfl, rfl⟩)
theorem pd_Ljava_lang_AbstractStringBuilder_Ljava_lang_Void__V : parseMethodDescriptor "(Ljava/lang/AbstractStringBuilder;Ljava/lang/Void;)V" = some ⟨[(.object "java/lang/AbstractStringBuilder"), (.object "java/lang/Void")], none⟩ := by decide +kernel
theorem d19_6 : decode jdk_42_method_53_code 6 = .ok (.return_, 1) := by decide +kernel
abbrev y44 : MethodName := ⟨"java/lang/String", "<init>", "(Ljava/lang/StringBuilder;)V"⟩
abbrev y44b : ByteArray := jdk_42_method_53_code
abbrev y44r : Option Jvm.ClassFile.FieldType := (Option.none : Option Jvm.ClassFile.FieldType)
theorem c41_init {Z a0} (hw : HW a0 Z) (hs : SF Z) {p1 p2 p3 : Addr} {x1 : Int32} (hx1 : 0 ≤ x1.toInt ∧ x1.toInt ≤ 15) {x2 : Int32} (hx2 : 0 ≤ x2.toInt ∧ x2.toInt ≤ 127) {l1 : List Int32} (hl_l1 : (l1.length : Int) = x2.toInt) (hr0 : x1.toInt ≤ x2.toInt) {f_p2_3 : Value} {w_p2 : Bool} {w_p3 : Bool} {F : List Ent} (mp2 : (p2, w_p2, oStringBuilder (vr p3) (vi 0) (vi x1) f_p2_3) ∈ F) (mp3 : (p3, w_p3, ar "[B" .byte (lm l1)) ∈ F) : Con Z EL y44 y44b 2 y44r (rmm 4 1 255 95) [(vr p1), (vr p2)] ((p1, true, oString .null (vi 0)) :: F) (fun v D' => (∃ a1 : Addr, Cd .eq x1 x2 ∧ v = none ∧ (a1, true, ar "[B" .byte (lm l1)) :: (p1, true, oString (vr a1) (vi 0)) :: F = D') ∨ (∃ a2 : Addr, ¬ Cd .eq x1 x2 ∧ Cd .gt x2 x1 ∧ (((cpl l1 (0 : Int32).toInt.toNat (List.replicate x1.toInt.toNat (0 : Int32)) (0 : Int32).toInt.toNat x1.toInt.toNat)).length : Int) = x1.toInt ∧ v = none ∧ (a2, true, ar "[B" .byte (lm (cpl l1 (0 : Int32).toInt.toNat (List.replicate x1.toInt.toNat (0 : Int32)) (0 : Int32).toInt.toNat x1.toInt.toNat))) :: (p1, true, oString (vr a2) (vi 0)) :: F = D')) := by
  refine Con.of (ls := #[rv p1, rv p2]) (by decide +kernel) rfl ?_
  refine W.aloadN d19_0 rfl rfl ?_
  refine W.aloadN d19_1 rfl rfl ?_
  refine W.aconstNull d19_2 ?_
  refine W.callI (as := [(vr p2), .null]) 0 [] d19_3 rfl (wq hw 147 rfl) (wq hw 148 rfl) (wq hw 6 rfl) (wq hw 149 rfl) (c42_init hw hs (hx1 := hx1) (hx2 := hx2) (hr0 := by omega) (l1 := l1) (hl_l1 := hl_l1) (mp2 := mp2) (mp3 := mp3)) (by decide) pd_Ljava_lang_AbstractStringBuilder_Ljava_lang_Void__V rfl rfl rfl rfl (by decide) (fun v D' h => ?_)
  rcases h with ⟨a1, h1, rfl, rfl⟩ | ⟨a2, h2, h3, hl3, rfl, rfl⟩
  ·
   have ih1 := t_eq h1
   show W _ _ _ _ _ _ _ _ _ _ _ _ 6 _ []
   exact W.return_ d19_6 rfl (by decide) (Or.inl ⟨a1, h1, rfl, rfl⟩)
  ·
   have ih2 := f_eq h2
   have ih3 := t_gt h3
   show W _ _ _ _ _ _ _ _ _ _ _ _ 6 _ []
   exact W.return_ d19_6 rfl (by decide) (Or.inr ⟨a2, h2, h3, hl3, rfl, rfl⟩)
theorem pd_Ljava_lang_StringBuilder__V : parseMethodDescriptor "(Ljava/lang/StringBuilder;)V" = some ⟨[(.object "java/lang/StringBuilder")], none⟩ := by decide +kernel
theorem d18_8 : decode jdk_67_method_42_code 8 = .ok (.areturn, 1) := by decide +kernel
abbrev y45 : MethodName := ⟨"java/lang/StringBuilder", "toString", "()Ljava/lang/String;"⟩
abbrev y45b : ByteArray := jdk_67_method_42_code
abbrev y45r : Option Jvm.ClassFile.FieldType := (Option.some (Jvm.ClassFile.FieldType.object "java/lang/String"))
theorem c40_toString {Z a0} (hw : HW a0 Z) (hs : SF Z) {p1 p2 : Addr} {x1 : Int32} (hx1 : 0 ≤ x1.toInt ∧ x1.toInt ≤ 15) {x2 : Int32} (hx2 : 0 ≤ x2.toInt ∧ x2.toInt ≤ 127) {l1 : List Int32} (hl_l1 : (l1.length : Int) = x2.toInt) (hr0 : x1.toInt ≤ x2.toInt) {f_p1_3 : Value} {w_p1 : Bool} {w_p2 : Bool} {F : List Ent} (mp1 : (p1, w_p1, oStringBuilder (vr p2) (vi 0) (vi x1) f_p1_3) ∈ F) (mp2 : (p2, w_p2, ar "[B" .byte (lm l1)) ∈ F) : Con Z EL y45 y45b 1 y45r (rmm 5 2 259 109) [(vr p1)] (F) (fun v D' => (∃ a1 a2 : Addr, Cd .eq x1 x2 ∧ v = some (vr a1) ∧ (a2, true, ar "[B" .byte (lm l1)) :: (a1, true, oString (vr a2) (vi 0)) :: F = D') ∨ (∃ a1 a3 : Addr, ¬ Cd .eq x1 x2 ∧ Cd .gt x2 x1 ∧ (((cpl l1 (0 : Int32).toInt.toNat (List.replicate x1.toInt.toNat (0 : Int32)) (0 : Int32).toInt.toNat x1.toInt.toNat)).length : Int) = x1.toInt ∧ v = some (vr a1) ∧ (a3, true, ar "[B" .byte (lm (cpl l1 (0 : Int32).toInt.toNat (List.replicate x1.toInt.toNat (0 : Int32)) (0 : Int32).toInt.toNat x1.toInt.toNat))) :: (a1, true, oString (vr a3) (vi 0)) :: F = D')) := by
  refine Con.of (ls := #[rv p1]) (by decide +kernel) rfl ?_
  refine W.new d18_0 (wq hw 142 rfl) (wq hw 7 rfl) (wq hw 6 rfl) (laString hw) (by decide) (by decide) (fun a1 => ?_)
  show W _ _ _ _ _ _ _ _ _ _ _ _ 3 _ [(vr a1)]
  refine W.dup d18_3 rfl ?_
  refine W.aloadN d18_4 rfl rfl ?_
  refine W.callI (as := [(vr p1)]) 1 [(vr a1)] d18_5 rfl (wq hw 143 rfl) (wq hw 144 rfl) (wq hw 6 rfl) (wq hw 146 rfl) (c41_init hw hs (hx1 := hx1) (hx2 := hx2) (hr0 := by omega) (l1 := l1) (hl_l1 := hl_l1) (mp2 := mp1) (mp3 := mp2)) (by decide) pd_Ljava_lang_StringBuilder__V rfl rfl rfl rfl (by decide) (fun v D' h => ?_)
  rcases h with ⟨a2, h1, rfl, rfl⟩ | ⟨a3, h2, h3, hl4, rfl, rfl⟩
  ·
   have ih1 := t_eq h1
   show W _ _ _ _ _ _ _ _ _ _ _ _ 8 _ [(vr a1)]
   exact W.areturn d18_8 rfl rfl rfl (by decide) (Or.inl ⟨a1, a2, h1, rfl, rfl⟩)
  ·
   have ih2 := f_eq h2
   have ih3 := t_gt h3
   show W _ _ _ _ _ _ _ _ _ _ _ _ 8 _ [(vr a1)]
   exact W.areturn d18_8 rfl rfl rfl (by decide) (Or.inr ⟨a1, a3, h2, h3, hl4, rfl, rfl⟩)
theorem c39_text {Z a0} (hw : HW a0 Z) (hs : SF Z) {p1 p7 p11 : Addr} {x1 : Int32} (hx1 : 0 ≤ x1.toInt ∧ x1.toInt ≤ 15) {x2 : Int32} (hx2 : 0 ≤ x2.toInt ∧ x2.toInt ≤ 127) {l1 : List Int32} (hl_l1 : (l1.length : Int) = x2.toInt) (hr0 : x1.toInt ≤ x2.toInt) {f_p1_0 f_p1_1 f_p1_2 f_p1_3 f_p1_4 f_p1_5 f_p1_6 f_p7_3 : Value} {w_p1 : Bool} {w_p7 : Bool} {w_p11 : Bool} {F : List Ent} (mp1 : (p1, w_p1, oXmlElement f_p1_0 f_p1_1 f_p1_2 f_p1_3 f_p1_4 f_p1_5 f_p1_6 (vr p7)) ∈ F) (mp7 : (p7, w_p7, oStringBuilder (vr p11) (vi 0) (vi x1) f_p7_3) ∈ F) (mp11 : (p11, w_p11, ar "[B" .byte (lm l1)) ∈ F) : Con Z EL y5 y5b 1 y5r (rmm 6 2 259 121) [(vr p1)] (F) (fun v D' => (∃ a1 a2 : Addr, Cd .eq x1 x2 ∧ v = some (vr a1) ∧ (a2, true, ar "[B" .byte (lm l1)) :: (a1, true, oString (vr a2) (vi 0)) :: F = D') ∨ (∃ a3 a4 : Addr, ¬ Cd .eq x1 x2 ∧ Cd .gt x2 x1 ∧ (((cpl l1 (0 : Int32).toInt.toNat (List.replicate x1.toInt.toNat (0 : Int32)) (0 : Int32).toInt.toNat x1.toInt.toNat)).length : Int) = x1.toInt ∧ v = some (vr a3) ∧ (a4, true, ar "[B" .byte (lm (cpl l1 (0 : Int32).toInt.toNat (List.replicate x1.toInt.toNat (0 : Int32)) (0 : Int32).toInt.toNat x1.toInt.toNat))) :: (a3, true, oString (vr a4) (vi 0)) :: F = D')) := by
  refine Con.of (ls := #[rv p1]) (by decide +kernel) rfl ?_
  refine W.aloadN d6_0 rfl rfl ?_
  refine W.getf d6_1 (wq hw 65 rfl) Via.refl mp1 m7 ?_
  refine W.ifnonnullY 12 d6_4 (by decide) ?_
  refine W.aloadN d6_12 rfl rfl ?_
  refine W.getf d6_13 (wq hw 65 rfl) Via.refl mp1 m7 ?_
  refine W.callV (as := []) 0 [] d6_16 (wq hw 137 rfl) (wq hw 138 rfl) (wq hw 140 rfl) (wq hw 140 rfl) (wq hw 139 rfl) (wq hw 88 rfl) (wq hw 141 rfl) (Hp.exa mp7) (c40_toString hw hs (hx1 := hx1) (hx2 := hx2) (hr0 := by omega) (l1 := l1) (hl_l1 := hl_l1) (mp1 := mp7) (mp2 := mp11)) (by decide) pd__Ljava_lang_String_ rfl rfl rfl rfl (by decide) (fun v D' h => ?_)
  rcases h with ⟨a1, a2, h1, rfl, rfl⟩ | ⟨a3, a4, h2, h3, hl5, rfl, rfl⟩
  ·
   have ih1 := t_eq h1
   show W _ _ _ _ _ _ _ _ _ _ _ _ 19 _ [(vr a1)]
   exact W.areturn d6_19 rfl rfl rfl (by decide) (Or.inl ⟨a1, a2, h1, rfl, rfl⟩)
  ·
   have ih2 := f_eq h2
   have ih3 := t_gt h3
   show W _ _ _ _ _ _ _ _ _ _ _ _ 19 _ [(vr a3)]
   exact W.areturn d6_19 rfl rfl rfl (by decide) (Or.inr ⟨a3, a4, h2, h3, hl5, rfl, rfl⟩)
theorem d17_17 : decode jdk_68_method_68_code 17 = .ok (.iconst 0, 1) := by decide +kernel
theorem c54_isLatin1 {Z a0} (hw : HW a0 Z) (hs : SF Z) {p1 : Addr} {f_p1_0 f_p1_2 f_p1_3 : Value} {w_p1 : Bool} {F : List Ent} (mp1 : (p1, w_p1, oStringBuilder f_p1_0 (vi 1) f_p1_2 f_p1_3) ∈ F) : Con Z EL y17 y17b 1 y17r (rmm 0 0 0 0) [(vr p1)] (F) (fun v D' => (v = some (vi 0) ∧ F = D')) := by
  refine Con.of (ls := #[rv p1]) (by decide +kernel) rfl ?_
  refine W.gets d17_0 (wq hw 99 rfl) Via.refl hs.1 ?_
  refine W.ifN d17_3 (n_eq (by have := hs.2.1; have := q0; omega)) ?_
  refine W.aloadN d17_6 rfl rfl ?_
  refine W.getf d17_7 (wq hw 102 rfl) Via.refl mp1 m1 ?_
  refine W.ifY 17 d17_10 (y_ne (by decide)) (by decide) ?_
  refine W.iconst (0) d17_17 (by decide) ?_
  exact W.ireturn d17_18 rfl (Or.inr (Or.inl rfl)) (nw_bool (by decide)) (by decide) ⟨rfl, rfl⟩
theorem d20_41 : decode jdk_42_method_150_code 41 = .ok (.getstatic 38, 3) := by decide +kernel
theorem d20_44 : decode jdk_42_method_150_code 44 = .ok (.ifCond .eq 35, 3) := by decide +kernel
theorem d20_47 : decode jdk_42_method_150_code 47 = .ok (.aload_n 1, 1) := by decide +kernel
theorem d20_48 : decode jdk_42_method_150_code 48 = .ok (.getfield 1048, 3) := by decide +kernel
theorem d20_51 : decode jdk_42_method_150_code 51 = .ok (.ifCond .eq 28, 3) := by decide +kernel
theorem d20_79 : decode jdk_42_method_150_code 79 = .ok (.aload_n 0, 1) := by decide +kernel
theorem d20_80 : decode jdk_42_method_150_code 80 = .ok (.iconst 1, 1) := by decide +kernel
theorem d20_81 : decode jdk_42_method_150_code 81 = .ok (.putfield 15, 3) := by decide +kernel
theorem d20_84 : decode jdk_42_method_150_code 84 = .ok (.aload_n 0, 1) := by decide +kernel
theorem d20_85 : decode jdk_42_method_150_code 85 = .ok (.aload_n 3, 1) := by decide +kernel
theorem d20_86 : decode jdk_42_method_150_code 86 = .ok (.iconst 0, 1) := by decide +kernel
theorem d20_87 : decode jdk_42_method_150_code 87 = .ok (.iload 4, 2) := by decide +kernel
theorem d20_89 : decode jdk_42_method_150_code 89 = .ok (.iconst 1, 1) := by decide +kernel
theorem d20_90 : decode jdk_42_method_150_code 90 = .ok (.ishl, 1) := by decide +kernel
theorem d20_91 : decode jdk_42_method_150_code 91 = .ok (.invokestatic 54, 3) := by decide +kernel
theorem c57_checkLength {Z a0} (hw : HW a0 Z) (hs : SF Z) {x1 : Int32} (hx1 : 0 ≤ x1.toInt ∧ x1.toInt ≤ 127) {F : List Ent} : Con Z EL y40 y40b 2 y40r (rmm 0 0 0 0) [(vi 0), (vi x1)] (F) (fun v D' => (v = none ∧ F = D')) := by
  refine Con.of (ls := #[iv 0, iv x1]) (by decide +kernel) rfl ?_
  refine W.iloadN d55_0 rfl ?_
  refine W.iloadN d55_1 rfl ?_
  refine W.icmpY 37 d55_2 (y_ge (by have := q0; omega)) (by decide) ?_
  exact W.return_ d55_37 rfl (by decide) ⟨rfl, rfl⟩
theorem c58_min {Z a0} (hw : HW a0 Z) (hs : SF Z) {x1 : Int32} (hx1 : 0 ≤ x1.toInt ∧ x1.toInt ≤ 127) {x2 : Int32} (hx2 : 0 ≤ x2.toInt ∧ x2.toInt ≤ 127) {F : List Ent} : Con Z EL y14 y14b 2 y14r (rmm 0 0 0 0) [(vi x1), (vi x2)] (F) (fun v D' => (Cd .gt x1 x2 ∧ v = some (vi x2) ∧ F = D') ∨ (¬ Cd .gt x1 x2 ∧ v = some (vi x1) ∧ F = D')) := by
  refine Con.of (ls := #[iv x1, iv x2]) (by decide +kernel) rfl ?_
  refine W.iloadN d53_0 rfl ?_
  refine W.iloadN d53_1 rfl ?_
  refine W.icmp 9 d53_2 (by decide) (fun h1 => ?_) (fun h1 => ?_)
  ·
   have ih1 := t_gt h1
   refine W.iloadN d53_9 rfl ?_
   exact W.ireturn d53_10 rfl (Or.inl rfl) rfl (by decide) (Or.inl ⟨h1, rfl, rfl⟩)
  ·
   have ih1 := f_gt h1
   refine W.iloadN d53_5 rfl ?_
   refine W.goto 10 d53_6 (by decide) ?_
   exact W.ireturn d53_10 rfl (Or.inl rfl) rfl (by decide) (Or.inr ⟨h1, rfl, rfl⟩)
theorem c56_copyOfRangeByte {Z a0} (hw : HW a0 Z) (hs : SF Z) {p1 : Addr} {x1 : Int32} (hx1 : 0 ≤ x1.toInt ∧ x1.toInt ≤ 127) {x2 : Int32} (hx2 : 0 ≤ x2.toInt ∧ x2.toInt ≤ 127) {l1 : List Int32} (hl_l1 : (l1.length : Int) = x2.toInt) (hr0 : x1.toInt < x2.toInt) {w_p1 : Bool} {ad_p1 : String} {F : List Ent} (mp1 : (p1, w_p1, ar ad_p1 .byte (lm l1)) ∈ F) : Con Z EL y41 y41b 5 y41r (rmm 1 1 255 48) [(vr p1), (vi 0), (vi x1)] (F) (fun v D' => (∃ a1 : Addr, Cd .gt x2 x1 ∧ (((cpl l1 (0 : Int32).toInt.toNat (List.replicate x1.toInt.toNat (0 : Int32)) (0 : Int32).toInt.toNat x1.toInt.toNat)).length : Int) = x1.toInt ∧ v = some (vr a1) ∧ (a1, true, ar "[B" .byte (lm (cpl l1 (0 : Int32).toInt.toNat (List.replicate x1.toInt.toNat (0 : Int32)) (0 : Int32).toInt.toNat x1.toInt.toNat))) :: F = D')) := by
  refine Con.of (ls := #[rv p1, iv 0, iv x1, uu, uu]) (by decide +kernel) rfl ?_
  refine W.iloadN d54_0 rfl ?_
  refine W.iloadN d54_1 rfl ?_
  refine W.callS (as := [(vi 0), (vi x1)]) 0 [] d54_2 (wq hw 296 rfl) (wq hw 297 rfl) (wq hw 167 rfl) (wq hw 298 rfl) (c57_checkLength hw hs (hx1 := hx1)) (by decide) pd_II_V rfl rfl rfl rfl (by decide) (fun v D' h => ?_)
  obtain ⟨rfl, rfl⟩ := h
  show W _ _ _ _ _ _ _ _ _ _ _ _ 5 _ []
  refine W.iloadN d54_5 rfl ?_
  refine W.iloadN d54_6 rfl ?_
  refine W.isubK x1 d54_7 (z_sub0 x1) ?_
  refine W.istoreN (ls' := #[rv p1, iv 0, iv x1, iv x1, uu]) d54_8 rfl ?_
  refine W.iloadN d54_9 rfl ?_
  have hl2 := len_rep (z := x1) (by have := q0; omega)
  refine W.newarrB 255 d54_10 (wq hw 8 rfl) (by have := q0; have := q255; omega) (by decide) (by decide) (fun a1 => ?_)
  show W _ _ _ _ _ _ _ _ _ _ _ _ 12 _ [(vr a1)]
  refine W.astore (ls' := #[rv p1, iv 0, iv x1, iv x1, rv a1]) d54_12 rfl rfl ?_
  refine W.aloadN d54_14 rfl rfl ?_
  refine W.iloadN d54_15 rfl ?_
  refine W.aload 4 d54_16 rfl rfl ?_
  refine W.iconst (0) d54_18 (by decide) ?_
  refine W.aloadN d54_19 rfl rfl ?_
  refine W.alenS (l := l1) (z := x2) d54_20 (mS mp1) hl_l1 ?_
  refine W.iloadN d54_21 rfl ?_
  refine W.isubK x2 d54_22 (z_sub0 x2) ?_
  refine W.iloadN d54_23 rfl ?_
  refine W.callS (as := [(vi x2), (vi x1)]) 4 [(vi 0), (vr a1), (vi 0), (vr p1)] d54_24 (wq hw 286 rfl) (wq hw 287 rfl) (wq hw 279 rfl) (wq hw 288 rfl) (c58_min hw hs (hx1 := hx2) (hx2 := hx1)) (by decide) pd_II_I rfl rfl rfl rfl (by decide) (fun v D' h => ?_)
  rcases h with ⟨h1, rfl, rfl⟩ | ⟨h2, rfl, rfl⟩
  ·
   have ih1 := t_gt h1
   show W _ _ _ _ _ _ _ _ _ _ _ _ 27 _ [(vi x1), (vi 0), (vr a1), (vi 0), (vr p1)]
   have hl3 := len_cplI (l1 := l1) (l2 := (List.replicate x1.toInt.toNat (0 : Int32))) (s := (0 : Int32)) (d := (0 : Int32)) (n := x1) hl_l1 hl2 (by have := q0; omega)
   refine W.cpyS (l1 := l1) (l2 := (List.replicate x1.toInt.toNat (0 : Int32))) (D' := (a1, true, ar "[B" .byte (lm (cpl l1 (0 : Int32).toInt.toNat (List.replicate x1.toInt.toNat (0 : Int32)) (0 : Int32).toInt.toNat x1.toInt.toNat))) :: F) 0 0 d54_27 (wq hw 289 rfl) (wq hw 292 rfl) (wq hw 290 rfl) (wq hw 291 rfl) (mS mp1) rfl rfl (by have := hl_l1; have := hl2; have := q0; omega) rfl rfl (by decide) rfl ?_
   refine W.aload 4 d54_30 rfl rfl ?_
   exact W.areturn d54_32 rfl rfl rfl (by decide) ⟨a1, h1, hl3, rfl, rfl⟩
  ·
   exact absurd h2 (Classical.not_not.mpr (y_gt (by omega)))
theorem c55_copyOfRange {Z a0} (hw : HW a0 Z) (hs : SF Z) {p1 : Addr} {x1 : Int32} (hx1 : 0 ≤ x1.toInt ∧ x1.toInt ≤ 127) {x2 : Int32} (hx2 : 0 ≤ x2.toInt ∧ x2.toInt ≤ 127) {l1 : List Int32} (hl_l1 : (l1.length : Int) = x2.toInt) (hr0 : x1.toInt ≤ x2.toInt) {w_p1 : Bool} {F : List Ent} (mp1 : (p1, w_p1, ar "[B" .byte (lm l1)) ∈ F) : Con Z EL y42 y42b 3 y42r (rmm 2 1 255 64) [(vr p1), (vi 0), (vi x1)] (F) (fun v D' => (∃ a1 : Addr, Cd .eq x1 x2 ∧ v = some (vr a1) ∧ (a1, true, ar "[B" .byte (lm l1)) :: F = D') ∨ (∃ a2 : Addr, ¬ Cd .eq x1 x2 ∧ Cd .gt x2 x1 ∧ (((cpl l1 (0 : Int32).toInt.toNat (List.replicate x1.toInt.toNat (0 : Int32)) (0 : Int32).toInt.toNat x1.toInt.toNat)).length : Int) = x1.toInt ∧ v = some (vr a2) ∧ (a2, true, ar "[B" .byte (lm (cpl l1 (0 : Int32).toInt.toNat (List.replicate x1.toInt.toNat (0 : Int32)) (0 : Int32).toInt.toNat x1.toInt.toNat))) :: F = D')) := by
  refine Con.of (ls := #[rv p1, iv 0, iv x1]) (by decide +kernel) rfl ?_
  refine W.iloadN d24_0 rfl ?_
  refine W.ifN d24_1 (n_ne (by decide)) ?_
  refine W.iloadN d24_4 rfl ?_
  refine W.aloadN d24_5 rfl rfl ?_
  refine W.alenS (l := l1) (z := x2) d24_6 mp1 hl_l1 ?_
  refine W.icmp 17 d24_7 (by decide) (fun h1 => ?_) (fun h1 => ?_)
  ·
   have ih1 := t_eq h1
   refine W.aloadN d24_17 rfl rfl ?_
   refine W.cloneS (l := l1) 0 255 d24_18 (wq hw 169 rfl) (wq hw 170 rfl) (wq hw 174 rfl) (wq hw 172 rfl) (wq hw 173 rfl) (wq hw 175 rfl) mp1 (by decide) (by have := hl_l1; have := q255; omega) rfl rfl (by decide) (fun a1 => ?_)
   show W _ _ _ _ _ _ _ _ _ _ _ _ 21 _ [(vr a1)]
   refine W.castY d24_21 (wq hw 176 rfl) (Hp.insA m0 (by decide)) ?_
   exact W.areturn d24_24 rfl rfl rfl (by decide) (Or.inl ⟨a1, h1, rfl, rfl⟩)
  ·
   have ih1 := f_eq h1
   refine W.aloadN d24_10 rfl rfl ?_
   refine W.iloadN d24_11 rfl ?_
   refine W.iloadN d24_12 rfl ?_
   refine W.callS (as := [(vr p1), (vi 0), (vi x1)]) 0 [] d24_13 (wq hw 293 rfl) (wq hw 294 rfl) (wq hw 167 rfl) (wq hw 295 rfl) (c56_copyOfRangeByte hw hs (hx1 := hx1) (hx2 := hx2) (hr0 := by omega) (l1 := l1) (hl_l1 := hl_l1) (mp1 := mp1)) (by decide) pd__BII__B rfl rfl rfl rfl (by decide) (fun v D' h => ?_)
   obtain ⟨a2, h2, hl3, rfl, rfl⟩ := h
   have ih2 := t_gt h2
   show W _ _ _ _ _ _ _ _ _ _ _ _ 16 _ [(vr a2)]
   exact W.areturn d24_16 rfl rfl rfl (by decide) (Or.inr ⟨a2, h1, h2, hl3, rfl, rfl⟩)
theorem d20_94 : decode jdk_42_method_150_code 94 = .ok (.putfield 9, 3) := by decide +kernel
theorem c53_init {Z a0} (hw : HW a0 Z) (hs : SF Z) {p1 p2 p3 : Addr} {x1 : Int32} (hx1 : 0 ≤ x1.toInt ∧ x1.toInt ≤ 15) {x2 : Int32} (hx2 : 0 ≤ x2.toInt ∧ x2.toInt ≤ 127) {l1 : List Int32} (hl_l1 : (l1.length : Int) = x2.toInt) (hr0 : x1.toInt ≤ (x2 >>> ((1 : Int32) &&& 31)).toInt) {w_p2 : Bool} {w_p3 : Bool} {F : List Ent} (mp2 : (p2, w_p2, oStringBuilder (vr p3) (vi 1) (vi x1) (vi 0)) ∈ F) (mp3 : (p3, w_p3, ar "[B" .byte (lm l1)) ∈ F) : Con Z EL y43 y43b 5 y43r (rmm 3 1 255 79) [(vr p1), (vr p2), .null] ((p1, true, oString .null (vi 0)) :: F) (fun v D' => (∃ a1 : Addr, Cd .eq (x1 <<< ((1 : Int32) &&& 31)) x2 ∧ v = none ∧ (a1, true, ar "[B" .byte (lm l1)) :: (p1, true, oString (vr a1) (vi 1)) :: F = D') ∨ (∃ a2 : Addr, ¬ Cd .eq (x1 <<< ((1 : Int32) &&& 31)) x2 ∧ Cd .gt x2 (x1 <<< ((1 : Int32) &&& 31)) ∧ (((cpl l1 (0 : Int32).toInt.toNat (List.replicate (x1 <<< ((1 : Int32) &&& 31)).toInt.toNat (0 : Int32)) (0 : Int32).toInt.toNat (x1 <<< ((1 : Int32) &&& 31)).toInt.toNat)).length : Int) = (x1 <<< ((1 : Int32) &&& 31)).toInt ∧ v = none ∧ (a2, true, ar "[B" .byte (lm (cpl l1 (0 : Int32).toInt.toNat (List.replicate (x1 <<< ((1 : Int32) &&& 31)).toInt.toNat (0 : Int32)) (0 : Int32).toInt.toNat (x1 <<< ((1 : Int32) &&& 31)).toInt.toNat))) :: (p1, true, oString (vr a2) (vi 1)) :: F = D')) := by
  refine Con.of (ls := #[rv p1, rv p2, .val .null, uu, uu]) (by decide +kernel) rfl ?_
  refine W.aloadN d20_0 rfl rfl ?_
  refine W.initO 0 d20_1 (wq hw 150 rfl) (wq hw 33 rfl) (wq hw 34 rfl) rfl rfl (by decide) ?_
  refine W.aloadN d20_4 rfl rfl ?_
  refine W.callV (as := []) 0 [] d20_5 (wq hw 151 rfl) (wq hw 152 rfl) (wq hw 154 rfl) (wq hw 154 rfl) (wq hw 153 rfl) (wq hw 96 rfl) (wq hw 155 rfl) (Hp.exa (mS mp2)) (c43_getValue hw hs (mp1 := (mS mp2))) (by decide) pd___B rfl rfl rfl rfl (by decide) (fun v D' h => ?_)
  obtain ⟨rfl, rfl⟩ := h
  show W _ _ _ _ _ _ _ _ _ _ _ _ 8 _ [(vr p3)]
  refine W.astoreN (ls' := #[rv p1, rv p2, .val .null, rv p3, uu]) d20_8 rfl rfl ?_
  refine W.aloadN d20_9 rfl rfl ?_
  refine W.callVN (as := []) 0 [] d20_10 (wq hw 156 rfl) (wq hw 157 rfl) (by rfl) (wq hw 123 rfl) (wq hw 125 rfl) (wq hw 159 rfl) (wq hw 160 rfl) (wq hw 88 rfl) (wq hw 161 rfl) (Hp.exa (mS mp2)) (c44_length hw hs (hx1 := hx1) (mp1 := (mS mp2))) (by decide) pd__I rfl rfl rfl rfl (by decide) (fun v D' h => ?_)
  obtain ⟨rfl, rfl⟩ := h
  show W _ _ _ _ _ _ _ _ _ _ _ _ 13 _ [(vi x1)]
  refine W.istore (ls' := #[rv p1, rv p2, .val .null, rv p3, iv x1]) d20_13 rfl ?_
  refine W.aloadN d20_15 rfl rfl ?_
  refine W.callV (as := []) 0 [] d20_16 (wq hw 164 rfl) (wq hw 133 rfl) (wq hw 135 rfl) (wq hw 135 rfl) (wq hw 134 rfl) (wq hw 96 rfl) (wq hw 136 rfl) (Hp.exa (mS mp2)) (c54_isLatin1 hw hs (mp1 := (mS mp2))) (by decide) pd__Z rfl rfl rfl rfl (by decide) (fun v D' h => ?_)
  obtain ⟨rfl, rfl⟩ := h
  show W _ _ _ _ _ _ _ _ _ _ _ _ 19 _ [(vi 0)]
  refine W.ifY 41 d20_19 (y_eq (by decide)) (by decide) ?_
  refine W.gets d20_41 (wq hw 79 rfl) Via.refl hs.1 ?_
  refine W.ifN d20_44 (n_eq (by have := hs.2.1; have := q0; omega)) ?_
  refine W.aloadN d20_47 rfl rfl ?_
  refine W.getf d20_48 (wq hw 237 rfl) Via.refl (mS mp2) m3 ?_
  refine W.ifY 79 d20_51 (y_eq (by decide)) (by decide) ?_
  refine W.aloadN d20_79 rfl rfl ?_
  refine W.iconst (1) d20_80 (by decide) ?_
  refine W.putf (D' := (p1, true, oString .null (vi 1)) :: F) 0 1 d20_81 (wq hw 80 rfl) Via.refl rfl rfl (Or.inr ⟨(wq hw 10 rfl), rfl, rfl⟩) (wq hw 7 rfl) pfB (nw_byte (by decide)) (ft_byte (by decide)) rfl ?_
  refine W.aloadN d20_84 rfl rfl ?_
  refine W.aloadN d20_85 rfl rfl ?_
  refine W.iconst (0) d20_86 (by decide) ?_
  refine W.iload d20_87 rfl ?_
  refine W.iconst (1) d20_89 (by decide) ?_
  refine W.ishl d20_90 ?_
  refine W.callS (as := [(vr p3), (vi 0), (vi (x1 <<< ((1 : Int32) &&& 31)))]) 1 [(vr p1)] d20_91 (wq hw 165 rfl) (wq hw 166 rfl) (wq hw 167 rfl) (wq hw 168 rfl) (c55_copyOfRange hw hs (hx1 := (by have := q1; have := ashl_1 x1; have := ashr_1 x2; omega)) (hx2 := hx2) (hr0 := by have := q1; have := ashl_1 x1; have := ashr_1 x2; omega) (l1 := l1) (hl_l1 := hl_l1) (mp1 := (mS mp3))) (by decide) pd__BII__B rfl rfl rfl rfl (by decide) (fun v D' h => ?_)
  rcases h with ⟨a1, h1, rfl, rfl⟩ | ⟨a2, h2, h3, hl3, rfl, rfl⟩
  ·
   have ih1 := t_eq h1
   show W _ _ _ _ _ _ _ _ _ _ _ _ 94 _ [(vr a1), (vr p1)]
   refine W.putf (D' := (a1, true, ar "[B" .byte (lm l1)) :: (p1, true, oString (vr a1) (vi 1)) :: F) 1 0 d20_94 (wq hw 73 rfl) Via.refl rfl rfl (Or.inr ⟨(wq hw 9 rfl), rfl, rfl⟩) (wq hw 7 rfl) pf_B rfl rfl rfl ?_
   exact W.return_ d20_97 rfl (by decide) (Or.inl ⟨a1, h1, rfl, rfl⟩)
  ·
   have ih2 := f_eq h2
   have ih3 := t_gt h3
   show W _ _ _ _ _ _ _ _ _ _ _ _ 94 _ [(vr a2), (vr p1)]
   refine W.putf (D' := (a2, true, ar "[B" .byte (lm (cpl l1 (0 : Int32).toInt.toNat (List.replicate (x1 <<< ((1 : Int32) &&& 31)).toInt.toNat (0 : Int32)) (0 : Int32).toInt.toNat (x1 <<< ((1 : Int32) &&& 31)).toInt.toNat))) :: (p1, true, oString (vr a2) (vi 1)) :: F) 1 0 d20_94 (wq hw 73 rfl) Via.refl rfl rfl (Or.inr ⟨(wq hw 9 rfl), rfl, rfl⟩) (wq hw 7 rfl) pf_B rfl rfl rfl ?_
   exact W.return_ d20_97 rfl (by decide) (Or.inr ⟨a2, h2, h3, hl3, rfl, rfl⟩)
theorem c52_init {Z a0} (hw : HW a0 Z) (hs : SF Z) {p1 p2 p3 : Addr} {x1 : Int32} (hx1 : 0 ≤ x1.toInt ∧ x1.toInt ≤ 15) {x2 : Int32} (hx2 : 0 ≤ x2.toInt ∧ x2.toInt ≤ 127) {l1 : List Int32} (hl_l1 : (l1.length : Int) = x2.toInt) (hr0 : x1.toInt ≤ (x2 >>> ((1 : Int32) &&& 31)).toInt) {w_p2 : Bool} {w_p3 : Bool} {F : List Ent} (mp2 : (p2, w_p2, oStringBuilder (vr p3) (vi 1) (vi x1) (vi 0)) ∈ F) (mp3 : (p3, w_p3, ar "[B" .byte (lm l1)) ∈ F) : Con Z EL y44 y44b 2 y44r (rmm 4 1 255 95) [(vr p1), (vr p2)] ((p1, true, oString .null (vi 0)) :: F) (fun v D' => (∃ a1 : Addr, Cd .eq (x1 <<< ((1 : Int32) &&& 31)) x2 ∧ v = none ∧ (a1, true, ar "[B" .byte (lm l1)) :: (p1, true, oString (vr a1) (vi 1)) :: F = D') ∨ (∃ a2 : Addr, ¬ Cd .eq (x1 <<< ((1 : Int32) &&& 31)) x2 ∧ Cd .gt x2 (x1 <<< ((1 : Int32) &&& 31)) ∧ (((cpl l1 (0 : Int32).toInt.toNat (List.replicate (x1 <<< ((1 : Int32) &&& 31)).toInt.toNat (0 : Int32)) (0 : Int32).toInt.toNat (x1 <<< ((1 : Int32) &&& 31)).toInt.toNat)).length : Int) = (x1 <<< ((1 : Int32) &&& 31)).toInt ∧ v = none ∧ (a2, true, ar "[B" .byte (lm (cpl l1 (0 : Int32).toInt.toNat (List.replicate (x1 <<< ((1 : Int32) &&& 31)).toInt.toNat (0 : Int32)) (0 : Int32).toInt.toNat (x1 <<< ((1 : Int32) &&& 31)).toInt.toNat))) :: (p1, true, oString (vr a2) (vi 1)) :: F = D')) := by
  refine Con.of (ls := #[rv p1, rv p2]) (by decide +kernel) rfl ?_
  refine W.aloadN d19_0 rfl rfl ?_
  refine W.aloadN d19_1 rfl rfl ?_
  refine W.aconstNull d19_2 ?_
  refine W.callI (as := [(vr p2), .null]) 0 [] d19_3 rfl (wq hw 147 rfl) (wq hw 148 rfl) (wq hw 6 rfl) (wq hw 149 rfl) (c53_init hw hs (hx1 := hx1) (hx2 := hx2) (hr0 := by have := q1; have := ashr_1 x2; omega) (l1 := l1) (hl_l1 := hl_l1) (mp2 := mp2) (mp3 := mp3)) (by decide) pd_Ljava_lang_AbstractStringBuilder_Ljava_lang_Void__V rfl rfl rfl rfl (by decide) (fun v D' h => ?_)
  rcases h with ⟨a1, h1, rfl, rfl⟩ | ⟨a2, h2, h3, hl3, rfl, rfl⟩
  ·
   have ih1 := t_eq h1
   show W _ _ _ _ _ _ _ _ _ _ _ _ 6 _ []
   exact W.return_ d19_6 rfl (by decide) (Or.inl ⟨a1, h1, rfl, rfl⟩)
  ·
   have ih2 := f_eq h2
   have ih3 := t_gt h3
   show W _ _ _ _ _ _ _ _ _ _ _ _ 6 _ []
   exact W.return_ d19_6 rfl (by decide) (Or.inr ⟨a2, h2, h3, hl3, rfl, rfl⟩)
theorem c51_toString {Z a0} (hw : HW a0 Z) (hs : SF Z) {p1 p2 : Addr} {x1 : Int32} (hx1 : 0 ≤ x1.toInt ∧ x1.toInt ≤ 15) {x2 : Int32} (hx2 : 0 ≤ x2.toInt ∧ x2.toInt ≤ 127) {l1 : List Int32} (hl_l1 : (l1.length : Int) = x2.toInt) (hr0 : x1.toInt ≤ (x2 >>> ((1 : Int32) &&& 31)).toInt) {w_p1 : Bool} {w_p2 : Bool} {F : List Ent} (mp1 : (p1, w_p1, oStringBuilder (vr p2) (vi 1) (vi x1) (vi 0)) ∈ F) (mp2 : (p2, w_p2, ar "[B" .byte (lm l1)) ∈ F) : Con Z EL y45 y45b 1 y45r (rmm 5 2 259 109) [(vr p1)] (F) (fun v D' => (∃ a1 a2 : Addr, Cd .eq (x1 <<< ((1 : Int32) &&& 31)) x2 ∧ v = some (vr a1) ∧ (a2, true, ar "[B" .byte (lm l1)) :: (a1, true, oString (vr a2) (vi 1)) :: F = D') ∨ (∃ a1 a3 : Addr, ¬ Cd .eq (x1 <<< ((1 : Int32) &&& 31)) x2 ∧ Cd .gt x2 (x1 <<< ((1 : Int32) &&& 31)) ∧ (((cpl l1 (0 : Int32).toInt.toNat (List.replicate (x1 <<< ((1 : Int32) &&& 31)).toInt.toNat (0 : Int32)) (0 : Int32).toInt.toNat (x1 <<< ((1 : Int32) &&& 31)).toInt.toNat)).length : Int) = (x1 <<< ((1 : Int32) &&& 31)).toInt ∧ v = some (vr a1) ∧ (a3, true, ar "[B" .byte (lm (cpl l1 (0 : Int32).toInt.toNat (List.replicate (x1 <<< ((1 : Int32) &&& 31)).toInt.toNat (0 : Int32)) (0 : Int32).toInt.toNat (x1 <<< ((1 : Int32) &&& 31)).toInt.toNat))) :: (a1, true, oString (vr a3) (vi 1)) :: F = D')) := by
  refine Con.of (ls := #[rv p1]) (by decide +kernel) rfl ?_
  refine W.new d18_0 (wq hw 142 rfl) (wq hw 7 rfl) (wq hw 6 rfl) (laString hw) (by decide) (by decide) (fun a1 => ?_)
  show W _ _ _ _ _ _ _ _ _ _ _ _ 3 _ [(vr a1)]
  refine W.dup d18_3 rfl ?_
  refine W.aloadN d18_4 rfl rfl ?_
  refine W.callI (as := [(vr p1)]) 1 [(vr a1)] d18_5 rfl (wq hw 143 rfl) (wq hw 144 rfl) (wq hw 6 rfl) (wq hw 146 rfl) (c52_init hw hs (hx1 := hx1) (hx2 := hx2) (hr0 := by have := q1; have := ashr_1 x2; omega) (l1 := l1) (hl_l1 := hl_l1) (mp2 := mp1) (mp3 := mp2)) (by decide) pd_Ljava_lang_StringBuilder__V rfl rfl rfl rfl (by decide) (fun v D' h => ?_)
  rcases h with ⟨a2, h1, rfl, rfl⟩ | ⟨a3, h2, h3, hl4, rfl, rfl⟩
  ·
   have ih1 := t_eq h1
   show W _ _ _ _ _ _ _ _ _ _ _ _ 8 _ [(vr a1)]
   exact W.areturn d18_8 rfl rfl rfl (by decide) (Or.inl ⟨a1, a2, h1, rfl, rfl⟩)
  ·
   have ih2 := f_eq h2
   have ih3 := t_gt h3
   show W _ _ _ _ _ _ _ _ _ _ _ _ 8 _ [(vr a1)]
   exact W.areturn d18_8 rfl rfl rfl (by decide) (Or.inr ⟨a1, a3, h2, h3, hl4, rfl, rfl⟩)
theorem c50_text {Z a0} (hw : HW a0 Z) (hs : SF Z) {p1 p7 p11 : Addr} {x1 : Int32} (hx1 : 0 ≤ x1.toInt ∧ x1.toInt ≤ 15) {x2 : Int32} (hx2 : 0 ≤ x2.toInt ∧ x2.toInt ≤ 127) {l1 : List Int32} (hl_l1 : (l1.length : Int) = x2.toInt) (hr0 : x1.toInt ≤ (x2 >>> ((1 : Int32) &&& 31)).toInt) {f_p1_0 f_p1_1 f_p1_2 f_p1_3 f_p1_4 f_p1_5 f_p1_6 : Value} {w_p1 : Bool} {w_p7 : Bool} {w_p11 : Bool} {F : List Ent} (mp1 : (p1, w_p1, oXmlElement f_p1_0 f_p1_1 f_p1_2 f_p1_3 f_p1_4 f_p1_5 f_p1_6 (vr p7)) ∈ F) (mp7 : (p7, w_p7, oStringBuilder (vr p11) (vi 1) (vi x1) (vi 0)) ∈ F) (mp11 : (p11, w_p11, ar "[B" .byte (lm l1)) ∈ F) : Con Z EL y5 y5b 1 y5r (rmm 6 2 259 121) [(vr p1)] (F) (fun v D' => (∃ a1 a2 : Addr, Cd .eq (x1 <<< ((1 : Int32) &&& 31)) x2 ∧ v = some (vr a1) ∧ (a2, true, ar "[B" .byte (lm l1)) :: (a1, true, oString (vr a2) (vi 1)) :: F = D') ∨ (∃ a3 a4 : Addr, ¬ Cd .eq (x1 <<< ((1 : Int32) &&& 31)) x2 ∧ Cd .gt x2 (x1 <<< ((1 : Int32) &&& 31)) ∧ (((cpl l1 (0 : Int32).toInt.toNat (List.replicate (x1 <<< ((1 : Int32) &&& 31)).toInt.toNat (0 : Int32)) (0 : Int32).toInt.toNat (x1 <<< ((1 : Int32) &&& 31)).toInt.toNat)).length : Int) = (x1 <<< ((1 : Int32) &&& 31)).toInt ∧ v = some (vr a3) ∧ (a4, true, ar "[B" .byte (lm (cpl l1 (0 : Int32).toInt.toNat (List.replicate (x1 <<< ((1 : Int32) &&& 31)).toInt.toNat (0 : Int32)) (0 : Int32).toInt.toNat (x1 <<< ((1 : Int32) &&& 31)).toInt.toNat))) :: (a3, true, oString (vr a4) (vi 1)) :: F = D')) := by
  refine Con.of (ls := #[rv p1]) (by decide +kernel) rfl ?_
  refine W.aloadN d6_0 rfl rfl ?_
  refine W.getf d6_1 (wq hw 65 rfl) Via.refl mp1 m7 ?_
  refine W.ifnonnullY 12 d6_4 (by decide) ?_
  refine W.aloadN d6_12 rfl rfl ?_
  refine W.getf d6_13 (wq hw 65 rfl) Via.refl mp1 m7 ?_
  refine W.callV (as := []) 0 [] d6_16 (wq hw 137 rfl) (wq hw 138 rfl) (wq hw 140 rfl) (wq hw 140 rfl) (wq hw 139 rfl) (wq hw 88 rfl) (wq hw 141 rfl) (Hp.exa mp7) (c51_toString hw hs (hx1 := hx1) (hx2 := hx2) (hr0 := by have := q1; have := ashr_1 x2; omega) (l1 := l1) (hl_l1 := hl_l1) (mp1 := mp7) (mp2 := mp11)) (by decide) pd__Ljava_lang_String_ rfl rfl rfl rfl (by decide) (fun v D' h => ?_)
  rcases h with ⟨a1, a2, h1, rfl, rfl⟩ | ⟨a3, a4, h2, h3, hl5, rfl, rfl⟩
  ·
   have ih1 := t_eq h1
   show W _ _ _ _ _ _ _ _ _ _ _ _ 19 _ [(vr a1)]
   exact W.areturn d6_19 rfl rfl rfl (by decide) (Or.inl ⟨a1, a2, h1, rfl, rfl⟩)
  ·
   have ih2 := f_eq h2
   have ih3 := t_gt h3
   show W _ _ _ _ _ _ _ _ _ _ _ _ 19 _ [(vr a3)]
   exact W.areturn d6_19 rfl rfl rfl (by decide) (Or.inr ⟨a3, a4, h2, h3, hl5, rfl, rfl⟩)
theorem c59_length {Z a0} (hw : HW a0 Z) (hs : SF Z) {p1 p2 : Addr} {x1 : Int32} (hx1 : 0 ≤ x1.toInt ∧ x1.toInt ≤ 15) {l1 : List Int32} (hl_l1 : (l1.length : Int) = x1.toInt) {w_p1 : Bool} {w_p2 : Bool} {ad_p2 : String} {F : List Ent} (mp1 : (p1, w_p1, oString (vr p2) (vi 0)) ∈ F) (mp2 : (p2, w_p2, ar ad_p2 .byte (lm l1)) ∈ F) : Con Z EL y7 y7b 1 y7r (rmm 1 0 0 13) [(vr p1)] (F) (fun v D' => (v = some (vi x1) ∧ F = D')) := by
  refine Con.of (ls := #[rv p1]) (by decide +kernel) rfl ?_
  refine W.aloadN d7_0 rfl rfl ?_
  refine W.getf d7_1 (wq hw 73 rfl) Via.refl mp1 m0 ?_
  refine W.alenS (l := l1) (z := x1) d7_4 mp2 hl_l1 ?_
  refine W.aloadN d7_5 rfl rfl ?_
  refine W.callV (as := []) 1 [(vi x1)] d7_6 (wq hw 74 rfl) (wq hw 75 rfl) (wq hw 77 rfl) (wq hw 77 rfl) (wq hw 76 rfl) (wq hw 6 rfl) (wq hw 78 rfl) (Hp.exa mp1) (c7_coder hw hs (mp1 := mp1)) (by decide) pd__B rfl rfl rfl rfl (by decide) (fun v D' h => ?_)
  obtain ⟨rfl, rfl⟩ := h
  show W _ _ _ _ _ _ _ _ _ _ _ _ 9 _ [(vi 0), (vi x1)]
  refine W.ishrK x1 d7_9 (z_shr0 x1) ?_
  exact W.ireturn d7_10 rfl (Or.inl rfl) rfl (by decide) ⟨rfl, rfl⟩
theorem d25_0 : decode method_3_code 0 = .ok (.iload_n 1, 1) := by decide +kernel
theorem d25_1 : decode method_3_code 1 = .ok (.iload 4, 2) := by decide +kernel
theorem d25_3 : decode method_3_code 3 = .ok (.iload 7, 2) := by decide +kernel
theorem d25_5 : decode method_3_code 5 = .ok (.iadd, 1) := by decide +kernel
theorem d25_6 : decode method_3_code 6 = .ok (.if_icmp .lt 5, 3) := by decide +kernel
theorem d25_11 : decode method_3_code 11 = .ok (.iload_n 1, 1) := by decide +kernel
theorem d25_12 : decode method_3_code 12 = .ok (.iload 4, 2) := by decide +kernel
theorem d25_14 : decode method_3_code 14 = .ok (.if_icmp .ge 13, 3) := by decide +kernel
theorem d25_27 : decode method_3_code 27 = .ok (.aload 5, 2) := by decide +kernel
theorem d25_29 : decode method_3_code 29 = .ok (.iload 6, 2) := by decide +kernel
theorem d25_31 : decode method_3_code 31 = .ok (.iload_n 1, 1) := by decide +kernel
theorem d25_32 : decode method_3_code 32 = .ok (.iadd, 1) := by decide +kernel
theorem d25_33 : decode method_3_code 33 = .ok (.iload 4, 2) := by decide +kernel
theorem d25_35 : decode method_3_code 35 = .ok (.isub, 1) := by decide +kernel
theorem d25_36 : decode method_3_code 36 = .ok (.caload, 1) := by decide +kernel
theorem d25_37 : decode method_3_code 37 = .ok (.istore 8, 2) := by decide +kernel
theorem d25_39 : decode method_3_code 39 = .ok (.aload_n 0, 1) := by decide +kernel
theorem d25_40 : decode method_3_code 40 = .ok (.iload_n 1, 1) := by decide +kernel
theorem d25_41 : decode method_3_code 41 = .ok (.invokevirtual 40, 3) := by decide +kernel
theorem d41_0 : decode jdk_42_method_56_code 0 = .ok (.aload_n 0, 1) := by decide +kernel
theorem d41_1 : decode jdk_42_method_56_code 1 = .ok (.invokevirtual 492, 3) := by decide +kernel
theorem d42_0 : decode jdk_42_method_154_code 0 = .ok (.getstatic 38, 3) := by decide +kernel
theorem d42_3 : decode jdk_42_method_154_code 3 = .ok (.ifCond .eq 14, 3) := by decide +kernel
theorem d42_6 : decode jdk_42_method_154_code 6 = .ok (.aload_n 0, 1) := by decide +kernel
theorem d42_7 : decode jdk_42_method_154_code 7 = .ok (.getfield 15, 3) := by decide +kernel
theorem d42_10 : decode jdk_42_method_154_code 10 = .ok (.ifCond .ne 7, 3) := by decide +kernel
theorem d42_13 : decode jdk_42_method_154_code 13 = .ok (.iconst 1, 1) := by decide +kernel
theorem d42_14 : decode jdk_42_method_154_code 14 = .ok (.goto 4, 3) := by decide +kernel
theorem d42_18 : decode jdk_42_method_154_code 18 = .ok (.ireturn, 1) := by decide +kernel
abbrev y46 : MethodName := ⟨"java/lang/String", "isLatin1", "()Z"⟩
abbrev y46b : ByteArray := jdk_42_method_154_code
abbrev y46r : Option Jvm.ClassFile.FieldType := (Option.some Jvm.ClassFile.FieldType.boolean)
theorem c62_isLatin1 {Z a0} (hw : HW a0 Z) (hs : SF Z) {p1 : Addr} {f_p1_0 : Value} {w_p1 : Bool} {F : List Ent} (mp1 : (p1, w_p1, oString f_p1_0 (vi 0)) ∈ F) : Con Z EL y46 y46b 1 y46r (rmm 0 0 0 0) [(vr p1)] (F) (fun v D' => (v = some (vi 1) ∧ F = D')) := by
  refine Con.of (ls := #[rv p1]) (by decide +kernel) rfl ?_
  refine W.gets d42_0 (wq hw 79 rfl) Via.refl hs.1 ?_
  refine W.ifN d42_3 (n_eq (by have := hs.2.1; have := q0; omega)) ?_
  refine W.aloadN d42_6 rfl rfl ?_
  refine W.getf d42_7 (wq hw 80 rfl) Via.refl mp1 m1 ?_
  refine W.ifN d42_10 (n_ne (by decide)) ?_
  refine W.iconst (1) d42_13 (by decide) ?_
  refine W.goto 18 d42_14 (by decide) ?_
  exact W.ireturn d42_18 rfl (Or.inr (Or.inl rfl)) (nw_bool (by decide)) (by decide) ⟨rfl, rfl⟩
theorem d41_4 : decode jdk_42_method_56_code 4 = .ok (.ifCond .eq 12, 3) := by decide +kernel
theorem d41_7 : decode jdk_42_method_56_code 7 = .ok (.aload_n 0, 1) := by decide +kernel
theorem d41_8 : decode jdk_42_method_56_code 8 = .ok (.getfield 9, 3) := by decide +kernel
theorem d41_11 : decode jdk_42_method_56_code 11 = .ok (.iload_n 1, 1) := by decide +kernel
theorem d41_12 : decode jdk_42_method_56_code 12 = .ok (.invokestatic 495, 3) := by decide +kernel
theorem d48_0 : decode jdk_43_method_2_code 0 = .ok (.iload_n 1, 1) := by decide +kernel
theorem d48_1 : decode jdk_43_method_2_code 1 = .ok (.aload_n 0, 1) := by decide +kernel
theorem d48_2 : decode jdk_43_method_2_code 2 = .ok (.arraylength, 1) := by decide +kernel
theorem d48_3 : decode jdk_43_method_2_code 3 = .ok (.invokestatic 9, 3) := by decide +kernel
theorem d45_0 : decode jdk_42_method_155_code 0 = .ok (.iload_n 0, 1) := by decide +kernel
theorem d45_1 : decode jdk_42_method_155_code 1 = .ok (.iload_n 1, 1) := by decide +kernel
theorem d45_2 : decode jdk_42_method_155_code 2 = .ok (.getstatic 1053, 3) := by decide +kernel
theorem d45_5 : decode jdk_42_method_155_code 5 = .ok (.invokestatic 1059, 3) := by decide +kernel
theorem d46_0 : decode jdk_41_method_11_code 0 = .ok (.iload_n 0, 1) := by decide +kernel
theorem d46_1 : decode jdk_41_method_11_code 1 = .ok (.ifCond .lt 8, 3) := by decide +kernel
theorem d46_4 : decode jdk_41_method_11_code 4 = .ok (.iload_n 0, 1) := by decide +kernel
theorem d46_5 : decode jdk_41_method_11_code 5 = .ok (.iload_n 1, 1) := by decide +kernel
theorem d46_6 : decode jdk_41_method_11_code 6 = .ok (.if_icmp .lt 10, 3) := by decide +kernel
theorem d46_16 : decode jdk_41_method_11_code 16 = .ok (.iload_n 0, 1) := by decide +kernel
theorem d46_17 : decode jdk_41_method_11_code 17 = .ok (.ireturn, 1) := by decide +kernel
abbrev y47 : MethodName := ⟨"jdk/internal/util/Preconditions", "checkIndex", "(IILjava/util/function/BiFunction;)I"⟩
abbrev y47b : ByteArray := jdk_41_method_11_code
abbrev y47r : Option Jvm.ClassFile.FieldType := (Option.some Jvm.ClassFile.FieldType.int)
theorem c65_checkIndex {Z a0} (hw : HW a0 Z) (hs : SF Z) {x1 : Int32} (hx1 : 0 ≤ x1.toInt ∧ x1.toInt ≤ 15) {x2 : Int32} (hx2 : 0 ≤ x2.toInt ∧ x2.toInt ≤ 15) (hr0 : (0 : Int32).toInt ≤ x1.toInt) (hr1 : x1.toInt < x2.toInt) {F : List Ent} : Con Z EL y47 y47b 3 y47r (rmm 0 0 0 0) [(vi x1), (vi x2), (sfv Z)] (F) (fun v D' => (v = some (vi x1) ∧ F = D')) := by
  refine Con.of (ls := #[iv x1, iv x2, .val (sfv Z)]) (by decide +kernel) (hent_of (ld1 rfl (ld1 rfl (ld1 (XT.cat1 hs.2.2.1) ld0))) rfl) ?_
  refine W.iloadN d46_0 rfl ?_
  refine W.ifN d46_1 (n_lt (by have := q0; omega)) ?_
  refine W.iloadN d46_4 rfl ?_
  refine W.iloadN d46_5 rfl ?_
  refine W.icmpY 16 d46_6 (y_lt (by have := q0; omega)) (by decide) ?_
  refine W.iloadN d46_16 rfl ?_
  exact W.ireturn d46_17 rfl (Or.inl rfl) rfl (by decide) ⟨rfl, rfl⟩
theorem pd_IILjava_util_function_BiFunction__I : parseMethodDescriptor "(IILjava/util/function/BiFunction;)I" = some ⟨[.int, .int, (.object "java/util/function/BiFunction")], some .int⟩ := by decide +kernel
theorem d45_8 : decode jdk_42_method_155_code 8 = .ok (.pop, 1) := by decide +kernel
theorem d45_9 : decode jdk_42_method_155_code 9 = .ok (.return_, 1) := by decide +kernel
abbrev y48 : MethodName := ⟨"java/lang/String", "checkIndex", "(II)V"⟩
abbrev y48b : ByteArray := jdk_42_method_155_code
abbrev y48r : Option Jvm.ClassFile.FieldType := (Option.none : Option Jvm.ClassFile.FieldType)
theorem c64_checkIndex {Z a0} (hw : HW a0 Z) (hs : SF Z) {x1 : Int32} (hx1 : 0 ≤ x1.toInt ∧ x1.toInt ≤ 15) {x2 : Int32} (hx2 : 0 ≤ x2.toInt ∧ x2.toInt ≤ 15) (hr0 : (0 : Int32).toInt ≤ x1.toInt) (hr1 : x1.toInt < x2.toInt) {F : List Ent} : Con Z EL y48 y48b 2 y48r (rmm 1 0 0 14) [(vi x1), (vi x2)] (F) (fun v D' => (v = none ∧ F = D')) := by
  refine Con.of (ls := #[iv x1, iv x2]) (by decide +kernel) rfl ?_
  refine W.iloadN d45_0 rfl ?_
  refine W.iloadN d45_1 rfl ?_
  refine W.gets d45_2 (wq hw 214 rfl) Via.refl hs.2.2.2.1 ?_
  refine W.callS (as := [(vi x1), (vi x2), (sfv Z)]) 0 [] d45_5 (wq hw 258 rfl) (wq hw 259 rfl) (wq hw 115 rfl) (wq hw 260 rfl) (c65_checkIndex hw hs (hx1 := hx1) (hx2 := hx2) (hr0 := by have := q0; omega) (hr1 := by have := q0; omega)) (by decide) pd_IILjava_util_function_BiFunction__I rfl rfl rfl rfl (by decide) (fun v D' h => ?_)
  obtain ⟨rfl, rfl⟩ := h
  show W _ _ _ _ _ _ _ _ _ _ _ _ 8 _ [(vi x1)]
  refine W.popv d45_8 rfl ?_
  exact W.return_ d45_9 rfl (by decide) ⟨rfl, rfl⟩
theorem d48_6 : decode jdk_43_method_2_code 6 = .ok (.aload_n 0, 1) := by decide +kernel
theorem d48_7 : decode jdk_43_method_2_code 7 = .ok (.iload_n 1, 1) := by decide +kernel
theorem d48_8 : decode jdk_43_method_2_code 8 = .ok (.baload, 1) := by decide +kernel
theorem d48_9 : decode jdk_43_method_2_code 9 = .ok (.sipush 255, 3) := by decide +kernel
theorem d48_12 : decode jdk_43_method_2_code 12 = .ok (.iand, 1) := by decide +kernel
theorem d48_13 : decode jdk_43_method_2_code 13 = .ok (.i2c, 1) := by decide +kernel
theorem d48_14 : decode jdk_43_method_2_code 14 = .ok (.ireturn, 1) := by decide +kernel
abbrev y49 : MethodName := ⟨"java/lang/StringLatin1", "charAt", "([BI)C"⟩
abbrev y49b : ByteArray := jdk_43_method_2_code
abbrev y49r : Option Jvm.ClassFile.FieldType := (Option.some Jvm.ClassFile.FieldType.char)
theorem c63_charAt {Z a0} (hw : HW a0 Z) (hs : SF Z) {p1 : Addr} {x1 : Int32} (hx1 : 0 ≤ x1.toInt ∧ x1.toInt ≤ 15) {x2 : Int32} (hx2 : 0 ≤ x2.toInt ∧ x2.toInt ≤ 15) {l1 : List Int32} (hl_l1 : (l1.length : Int) = x2.toInt) (hr0 : x1.toInt < x2.toInt) {w_p1 : Bool} {ad_p1 : String} {F : List Ent} (mp1 : (p1, w_p1, ar ad_p1 .byte (lm l1)) ∈ F) : Con Z EL y49 y49b 2 y49r (rmm 2 0 0 27) [(vr p1), (vi x1)] (F) (fun v D' => (v = some (vi ((sel x1 l1) &&& (255 : Int32))) ∧ F = D')) := by
  refine Con.of (ls := #[rv p1, iv x1]) (by decide +kernel) rfl ?_
  refine W.iloadN d48_0 rfl ?_
  refine W.aloadN d48_1 rfl rfl ?_
  refine W.alenS (l := l1) (z := x2) d48_2 mp1 hl_l1 ?_
  refine W.callS (as := [(vi x1), (vi x2)]) 0 [] d48_3 (wq hw 267 rfl) (wq hw 256 rfl) (wq hw 6 rfl) (wq hw 257 rfl) (c64_checkIndex hw hs (hx1 := hx1) (hx2 := hx2) (hr0 := by have := q0; omega) (hr1 := by omega)) (by decide) pd_II_V rfl rfl rfl rfl (by decide) (fun v D' h => ?_)
  obtain ⟨rfl, rfl⟩ := h
  show W _ _ _ _ _ _ _ _ _ _ _ _ 6 _ []
  refine W.aloadN d48_6 rfl rfl ?_
  refine W.iloadN d48_7 rfl ?_
  refine W.baloadS (j' := x1) (l := l1) d48_8 mp1 rfl (by have := hl_l1; have := q0; omega) ?_
  refine W.sipush (255) d48_9 (by decide) ?_
  refine W.iand d48_12 ?_
  refine W.i2cK ((sel x1 l1) &&& (255 : Int32)) d48_13 (z_i2c (by have := rng32 (sel x1 l1); have := q255; have := am_255 (sel x1 l1); omega)) ?_
  exact W.ireturn d48_14 rfl (Or.inr (Or.inr (Or.inr (Or.inl rfl)))) (nw_char (by have := rng32 (sel x1 l1); have := q255; have := am_255 (sel x1 l1); omega)) (by decide) ⟨rfl, rfl⟩
theorem pd__BI_C : parseMethodDescriptor "([BI)C" = some ⟨[(.array .byte), .int], some .char⟩ := by decide +kernel
theorem d41_15 : decode jdk_42_method_56_code 15 = .ok (.ireturn, 1) := by decide +kernel
abbrev y50 : MethodName := ⟨"java/lang/String", "charAt", "(I)C"⟩
abbrev y50b : ByteArray := jdk_42_method_56_code
abbrev y50r : Option Jvm.ClassFile.FieldType := (Option.some Jvm.ClassFile.FieldType.char)
theorem c61_charAt {Z a0} (hw : HW a0 Z) (hs : SF Z) {p1 p2 : Addr} {x1 : Int32} (hx1 : 0 ≤ x1.toInt ∧ x1.toInt ≤ 15) {x2 : Int32} (hx2 : 0 ≤ x2.toInt ∧ x2.toInt ≤ 15) {l1 : List Int32} (hl_l1 : (l1.length : Int) = x2.toInt) (hr0 : x1.toInt < x2.toInt) {w_p1 : Bool} {w_p2 : Bool} {ad_p2 : String} {F : List Ent} (mp1 : (p1, w_p1, oString (vr p2) (vi 0)) ∈ F) (mp2 : (p2, w_p2, ar ad_p2 .byte (lm l1)) ∈ F) : Con Z EL y50 y50b 2 y50r (rmm 3 0 0 40) [(vr p1), (vi x1)] (F) (fun v D' => (v = some (vi ((sel x1 l1) &&& (255 : Int32))) ∧ F = D')) := by
  refine Con.of (ls := #[rv p1, iv x1]) (by decide +kernel) rfl ?_
  refine W.aloadN d41_0 rfl rfl ?_
  refine W.callV (as := []) 0 [] d41_1 (wq hw 244 rfl) (wq hw 245 rfl) (wq hw 247 rfl) (wq hw 247 rfl) (wq hw 246 rfl) (wq hw 6 rfl) (wq hw 248 rfl) (Hp.exa mp1) (c62_isLatin1 hw hs (mp1 := mp1)) (by decide) pd__Z rfl rfl rfl rfl (by decide) (fun v D' h => ?_)
  obtain ⟨rfl, rfl⟩ := h
  show W _ _ _ _ _ _ _ _ _ _ _ _ 4 _ [(vi 1)]
  refine W.ifN d41_4 (n_eq (by decide)) ?_
  refine W.aloadN d41_7 rfl rfl ?_
  refine W.getf d41_8 (wq hw 73 rfl) Via.refl mp1 m0 ?_
  refine W.iloadN d41_11 rfl ?_
  refine W.callS (as := [(vr p2), (vi x1)]) 0 [] d41_12 (wq hw 264 rfl) (wq hw 265 rfl) (wq hw 184 rfl) (wq hw 266 rfl) (c63_charAt hw hs (hx1 := hx1) (hx2 := hx2) (hr0 := by omega) (l1 := l1) (hl_l1 := hl_l1) (mp1 := mp2)) (by decide) pd__BI_C rfl rfl rfl rfl (by decide) (fun v D' h => ?_)
  obtain ⟨rfl, rfl⟩ := h
  show W _ _ _ _ _ _ _ _ _ _ _ _ 15 _ [(vi ((sel x1 l1) &&& (255 : Int32)))]
  exact W.ireturn d41_15 rfl (Or.inr (Or.inr (Or.inr (Or.inl rfl)))) (nw_char (by have := rng32 (sel x1 l1); have := q255; have := am_255 (sel x1 l1); omega)) (by decide) ⟨rfl, rfl⟩
theorem pd_I_C : parseMethodDescriptor "(I)C" = some ⟨[.int], some .char⟩ := by decide +kernel
theorem d25_44 : decode method_3_code 44 = .ok (.iload 8, 2) := by decide +kernel
theorem d25_46 : decode method_3_code 46 = .ok (.if_icmp .ne 7, 3) := by decide +kernel
theorem d25_49 : decode method_3_code 49 = .ok (.iconst 1, 1) := by decide +kernel
theorem d25_50 : decode method_3_code 50 = .ok (.goto 4, 3) := by decide +kernel
theorem d25_54 : decode method_3_code 54 = .ok (.ireturn, 1) := by decide +kernel
theorem d25_17 : decode method_3_code 17 = .ok (.aload_n 2, 1) := by decide +kernel
theorem d25_18 : decode method_3_code 18 = .ok (.iload_n 3, 1) := by decide +kernel
theorem d25_19 : decode method_3_code 19 = .ok (.iload_n 1, 1) := by decide +kernel
theorem d25_20 : decode method_3_code 20 = .ok (.iadd, 1) := by decide +kernel
theorem d25_21 : decode method_3_code 21 = .ok (.caload, 1) := by decide +kernel
theorem d25_22 : decode method_3_code 22 = .ok (.istore 8, 2) := by decide +kernel
theorem d25_24 : decode method_3_code 24 = .ok (.goto 15, 3) := by decide +kernel
theorem d25_9 : decode method_3_code 9 = .ok (.iconst 1, 1) := by decide +kernel
theorem d25_10 : decode method_3_code 10 = .ok (.ireturn, 1) := by decide +kernel
abbrev y51 : MethodName := ⟨"com/example/montaje/montaje/xml/XmlElementAppendTextPinLaw", "at", "(Ljava/lang/String;I[CII[CII)Z"⟩
abbrev y51b : ByteArray := method_3_code
abbrev y51r : Option Jvm.ClassFile.FieldType := (Option.some Jvm.ClassFile.FieldType.boolean)
theorem c60_at {Z a0} (hw : HW a0 Z) (hs : SF Z) {p1 p2 p3 p4 : Addr} {x1 : Int32} (hx1 : 0 ≤ x1.toInt ∧ x1.toInt ≤ 127) {x2 : Int32} (hx2 : 0 ≤ x2.toInt ∧ x2.toInt ≤ 15) {x3 : Int32} (hx3 : 0 ≤ x3.toInt ∧ x3.toInt ≤ 15) {x4 : Int32} (hx4 : 0 ≤ x4.toInt ∧ x4.toInt ≤ 15) {x5 : Int32} (hx5 : 0 ≤ x5.toInt ∧ x5.toInt ≤ 127) {x6 : Int32} (hx6 : 0 ≤ x6.toInt ∧ x6.toInt ≤ 15) {l1 : List Int32} (hl_l1 : (l1.length : Int) = (3 : Int32).toInt) (hb_l1 : ∀ x ∈ l1, 0 ≤ x.toInt ∧ x.toInt ≤ 65535) {l2 : List Int32} (hl_l2 : (l2.length : Int) = (3 : Int32).toInt) (hb_l2 : ∀ x ∈ l2, 0 ≤ x.toInt ∧ x.toInt ≤ 65535) {l3 : List Int32} (hl_l3 : (l3.length : Int) = x6.toInt) (hr0 : (x3 + x5).toInt ≤ x6.toInt) (hr1 : (x2 + x3).toInt ≤ (3 : Int32).toInt) (hr2 : (x4 + x5).toInt ≤ (3 : Int32).toInt) (hA : x1.toInt < x3.toInt → dc 0 l3 x1.toInt.toNat = l1.getD (x2.toInt.toNat + x1.toInt.toNat) 0) (hB : x3.toInt ≤ x1.toInt → x1.toInt < (x3 + x5).toInt → dc 0 l3 x1.toInt.toNat = l2.getD (x4.toInt.toNat + (x1.toInt.toNat - x3.toInt.toNat)) 0) {w_p3 : Bool} {ad_p3 : String} {w_p1 : Bool} {w_p4 : Bool} {ad_p4 : String} {w_p2 : Bool} {ad_p2 : String} {F : List Ent} (mp3 : (p3, w_p3, ar ad_p3 .char (lm l2)) ∈ F) (mp1 : (p1, w_p1, oString (vr p4) (vi 0)) ∈ F) (mp4 : (p4, w_p4, ar ad_p4 .byte (lm l3)) ∈ F) (mp2 : (p2, w_p2, ar ad_p2 .char (lm l1)) ∈ F) : Con Z EL y51 y51b 9 y51r (rmm 4 0 0 53) [(vr p1), (vi x1), (vr p2), (vi x2), (vi x3), (vr p3), (vi x4), (vi x5)] (F) (fun v D' => (v = some (vi 1) ∧ F = D')) := by
  refine Con.of (ls := #[rv p1, iv x1, rv p2, iv x2, iv x3, rv p3, iv x4, iv x5, uu]) (by decide +kernel) rfl ?_
  refine W.iloadN d25_0 rfl ?_
  refine W.iload d25_1 rfl ?_
  refine W.iload d25_3 rfl ?_
  refine W.iadd d25_5 ?_
  refine W.icmp 11 d25_6 (by decide) (fun h1 => ?_) (fun h1 => ?_)
  ·
   have ih1 := t_lt h1
   refine W.iloadN d25_11 rfl ?_
   refine W.iload d25_12 rfl ?_
   refine W.icmp 27 d25_14 (by decide) (fun h2 => ?_) (fun h2 => ?_)
   ·
    have ih2 := t_ge h2
    refine W.aload 5 d25_27 rfl rfl ?_
    refine W.iload d25_29 rfl ?_
    refine W.iloadN d25_31 rfl ?_
    refine W.iadd d25_32 ?_
    refine W.iload d25_33 rfl ?_
    refine W.isub d25_35 ?_
    refine W.caloadS (j' := ((x4 + x1) - x3)) (l := l2) d25_36 mp3 rfl (by have := hl_l2; have := a_add x4 x1; have := a_sub (x4 + x1) x3; have := q3; have := q0; have := a_add x3 x5; have := a_add x2 x3; have := a_add x4 x5; omega) ?_
    refine W.istore (ls' := #[rv p1, iv x1, rv p2, iv x2, iv x3, rv p3, iv x4, iv x5, iv (sel ((x4 + x1) - x3) l2)]) d25_37 rfl ?_
    refine W.aloadN d25_39 rfl rfl ?_
    refine W.iloadN d25_40 rfl ?_
    refine W.callV (as := [(vi x1)]) 0 [] d25_41 (wq hw 239 rfl) (wq hw 240 rfl) (wq hw 242 rfl) (wq hw 242 rfl) (wq hw 241 rfl) (wq hw 6 rfl) (wq hw 243 rfl) (Hp.exa mp1) (c61_charAt hw hs (hx1 := (by have := a_add x3 x5; have := a_add x2 x3; have := q3; have := a_add x4 x5; omega)) (hx2 := hx6) (hr0 := by have := a_add x3 x5; have := a_add x2 x3; have := q3; have := a_add x4 x5; omega) (l1 := l3) (hl_l1 := hl_l3) (mp1 := mp1) (mp2 := mp4)) (by decide) pd_I_C rfl rfl rfl rfl (by decide) (fun v D' h => ?_)
    obtain ⟨rfl, rfl⟩ := h
    show W _ _ _ _ _ _ _ _ _ _ _ _ 44 _ [(vi ((sel x1 l3) &&& (255 : Int32)))]
    refine W.iload d25_44 rfl ?_
    have hq : ((sel x1 l3) &&& (255 : Int32)).toInt = (sel ((x4 + x1) - x3) l2).toInt := cmp0 (hB (by have := a_add x4 x1; have := a_sub (x4 + x1) x3; have := a_add x3 x5; have := a_add x2 x3; have := q3; have := a_add x4 x5; omega) (by have := a_add x4 x1; have := a_sub (x4 + x1) x3; have := a_add x3 x5; have := a_add x2 x3; have := q3; have := a_add x4 x5; omega)) (by have := a_add x4 x1; have := a_sub (x4 + x1) x3; have := a_add x3 x5; have := a_add x2 x3; have := q3; have := a_add x4 x5; omega)
    refine W.icmpN d25_46 (n_ne (by have := rng32 (sel x1 l3); have := q255; have := am_255 (sel x1 l3); have := a_add x4 x1; have := a_sub (x4 + x1) x3; have := sel_b hb_l2 (by decide) ((x4 + x1) - x3); have := a_add x3 x5; have := a_add x2 x3; have := q3; have := a_add x4 x5; omega)) ?_
    refine W.iconst (1) d25_49 (by decide) ?_
    refine W.goto 54 d25_50 (by decide) ?_
    exact W.ireturn d25_54 rfl (Or.inr (Or.inl rfl)) (nw_bool (by decide)) (by decide) ⟨rfl, rfl⟩
   ·
    have ih2 := f_ge h2
    refine W.aloadN d25_17 rfl rfl ?_
    refine W.iloadN d25_18 rfl ?_
    refine W.iloadN d25_19 rfl ?_
    refine W.iadd d25_20 ?_
    refine W.caloadS (j' := (x2 + x1)) (l := l1) d25_21 mp2 rfl (by have := hl_l1; have := a_add x2 x1; have := q3; have := q0; have := a_add x2 x3; have := a_add x3 x5; have := a_add x4 x5; omega) ?_
    refine W.istore (ls' := #[rv p1, iv x1, rv p2, iv x2, iv x3, rv p3, iv x4, iv x5, iv (sel (x2 + x1) l1)]) d25_22 rfl ?_
    refine W.goto 39 d25_24 (by decide) ?_
    refine W.aloadN d25_39 rfl rfl ?_
    refine W.iloadN d25_40 rfl ?_
    refine W.callV (as := [(vi x1)]) 0 [] d25_41 (wq hw 239 rfl) (wq hw 240 rfl) (wq hw 242 rfl) (wq hw 242 rfl) (wq hw 241 rfl) (wq hw 6 rfl) (wq hw 243 rfl) (Hp.exa mp1) (c61_charAt hw hs (hx1 := (by have := a_add x3 x5; have := a_add x2 x3; have := q3; have := a_add x4 x5; omega)) (hx2 := hx6) (hr0 := by have := a_add x3 x5; have := a_add x2 x3; have := q3; have := a_add x4 x5; omega) (l1 := l3) (hl_l1 := hl_l3) (mp1 := mp1) (mp2 := mp4)) (by decide) pd_I_C rfl rfl rfl rfl (by decide) (fun v D' h => ?_)
    obtain ⟨rfl, rfl⟩ := h
    show W _ _ _ _ _ _ _ _ _ _ _ _ 44 _ [(vi ((sel x1 l3) &&& (255 : Int32)))]
    refine W.iload d25_44 rfl ?_
    have hq : ((sel x1 l3) &&& (255 : Int32)).toInt = (sel (x2 + x1) l1).toInt := cmp0 (hA (by have := a_add x2 x1; have := a_add x3 x5; have := a_add x2 x3; have := q3; have := a_add x4 x5; omega)) (by have := a_add x2 x1; have := a_add x3 x5; have := a_add x2 x3; have := q3; have := a_add x4 x5; omega)
    refine W.icmpN d25_46 (n_ne (by have := rng32 (sel x1 l3); have := q255; have := am_255 (sel x1 l3); have := a_add x2 x1; have := sel_b hb_l1 (by decide) (x2 + x1); have := a_add x2 x3; have := q3; have := a_add x3 x5; have := a_add x4 x5; omega)) ?_
    refine W.iconst (1) d25_49 (by decide) ?_
    refine W.goto 54 d25_50 (by decide) ?_
    exact W.ireturn d25_54 rfl (Or.inr (Or.inl rfl)) (nw_bool (by decide)) (by decide) ⟨rfl, rfl⟩
  ·
   have ih1 := f_lt h1
   refine W.iconst (1) d25_9 (by decide) ?_
   exact W.ireturn d25_10 rfl (Or.inr (Or.inl rfl)) (nw_bool (by decide)) (by decide) ⟨rfl, rfl⟩
theorem pd_Ljava_lang_String_I_CII_CII_Z : parseMethodDescriptor "(Ljava/lang/String;I[CII[CII)Z" = some ⟨[(.object "java/lang/String"), .int, (.array .char), .int, .int, (.array .char), .int, .int], some .boolean⟩ := by decide +kernel
theorem c72_max {Z a0} (hw : HW a0 Z) (hs : SF Z) {x1 : Int32} (hx1 : 0 ≤ x1.toInt ∧ x1.toInt ≤ 15) {x2 : Int32} (hx2 : 0 ≤ x2.toInt ∧ x2.toInt ≤ 15) {F : List Ent} : Con Z EL y11 y11b 2 y11r (rmm 0 0 0 0) [(vi x1), (vi (x2 + (2 : Int32)))] (F) (fun v D' => (Cd .lt x1 (x2 + (2 : Int32)) ∧ v = some (vi (x2 + (2 : Int32))) ∧ F = D') ∨ (¬ Cd .lt x1 (x2 + (2 : Int32)) ∧ v = some (vi x1) ∧ F = D')) := by
  refine Con.of (ls := #[iv x1, iv (x2 + (2 : Int32))]) (by decide +kernel) rfl ?_
  refine W.iloadN d51_0 rfl ?_
  refine W.iloadN d51_1 rfl ?_
  refine W.icmp 9 d51_2 (by decide) (fun h1 => ?_) (fun h1 => ?_)
  ·
   have ih1 := t_lt h1
   refine W.iloadN d51_9 rfl ?_
   exact W.ireturn d51_10 rfl (Or.inl rfl) rfl (by decide) (Or.inl ⟨h1, rfl, rfl⟩)
  ·
   have ih1 := f_lt h1
   refine W.iloadN d51_5 rfl ?_
   refine W.goto 10 d51_6 (by decide) ?_
   exact W.ireturn d51_10 rfl (Or.inl rfl) rfl (by decide) (Or.inr ⟨h1, rfl, rfl⟩)
theorem c71_newLength {Z a0} (hw : HW a0 Z) (hs : SF Z) {x1 : Int32} (hx1 : 0 ≤ x1.toInt ∧ x1.toInt ≤ 15) {x2 : Int32} (hx2 : 0 ≤ x2.toInt ∧ x2.toInt ≤ 15) {F : List Ent} : Con Z EL y12 y12b 4 y12r (rmm 1 0 0 14) [(vi x1), (vi x2), (vi (x1 + (2 : Int32)))] (F) (fun v D' => (Cd .lt x2 (x1 + (2 : Int32)) ∧ v = some (vi (x1 + (x1 + (2 : Int32)))) ∧ F = D') ∨ (¬ Cd .lt x2 (x1 + (2 : Int32)) ∧ v = some (vi (x1 + x2)) ∧ F = D')) := by
  refine Con.of (ls := #[iv x1, iv x2, iv (x1 + (2 : Int32)), uu]) (by decide +kernel) rfl ?_
  refine W.iloadN d50_0 rfl ?_
  refine W.iloadN d50_1 rfl ?_
  refine W.iloadN d50_2 rfl ?_
  refine W.callS (as := [(vi x2), (vi (x1 + (2 : Int32)))]) 1 [(vi x1)] d50_3 (wq hw 277 rfl) (wq hw 278 rfl) (wq hw 279 rfl) (wq hw 280 rfl) (c72_max hw hs (hx1 := hx2) (hx2 := hx1)) (by decide) pd_II_I rfl rfl rfl rfl (by decide) (fun v D' h => ?_)
  rcases h with ⟨h1, rfl, rfl⟩ | ⟨h2, rfl, rfl⟩
  ·
   have ih1 := t_lt h1
   show W _ _ _ _ _ _ _ _ _ _ _ _ 6 _ [(vi (x1 + (2 : Int32))), (vi x1)]
   refine W.iadd d50_6 ?_
   refine W.istoreN (ls' := #[iv x1, iv x2, iv (x1 + (2 : Int32)), iv (x1 + (x1 + (2 : Int32)))]) d50_7 rfl ?_
   refine W.iconst (0) d50_8 (by decide) ?_
   refine W.iloadN d50_9 rfl ?_
   refine W.icmpN d50_10 (n_ge (by have := q0; have := q2; have := a_add x1 (2 : Int32); have := a_add x1 (x1 + (2 : Int32)); omega)) ?_
   refine W.iloadN d50_13 rfl ?_
   refine W.ldcI d50_14 (wq hw 281 rfl) ?_
   refine W.icmpN d50_16 (n_gt (by have := q2; have := a_add x1 (2 : Int32); have := a_add x1 (x1 + (2 : Int32)); have := q2147483639; omega)) ?_
   refine W.iloadN d50_19 rfl ?_
   exact W.ireturn d50_20 rfl (Or.inl rfl) rfl (by decide) (Or.inl ⟨h1, rfl, rfl⟩)
  ·
   have ih2 := f_lt h2
   show W _ _ _ _ _ _ _ _ _ _ _ _ 6 _ [(vi x2), (vi x1)]
   refine W.iadd d50_6 ?_
   refine W.istoreN (ls' := #[iv x1, iv x2, iv (x1 + (2 : Int32)), iv (x1 + x2)]) d50_7 rfl ?_
   refine W.iconst (0) d50_8 (by decide) ?_
   refine W.iloadN d50_9 rfl ?_
   refine W.icmpN d50_10 (n_ge (by have := q0; have := a_add x1 x2; have := q2; have := a_add x1 (2 : Int32); omega)) ?_
   refine W.iloadN d50_13 rfl ?_
   refine W.ldcI d50_14 (wq hw 281 rfl) ?_
   refine W.icmpN d50_16 (n_gt (by have := a_add x1 x2; have := q2147483639; have := q2; have := a_add x1 (2 : Int32); omega)) ?_
   refine W.iloadN d50_19 rfl ?_
   exact W.ireturn d50_20 rfl (Or.inl rfl) rfl (by decide) (Or.inr ⟨h2, rfl, rfl⟩)
theorem c70_newCapacity {Z a0} (hw : HW a0 Z) (hs : SF Z) {p1 p2 : Addr} {x1 : Int32} (hx1 : 0 ≤ x1.toInt ∧ x1.toInt ≤ 15) {x4 : Int32} (hx4 : 0 ≤ x4.toInt ∧ x4.toInt ≤ 15) {l1 : List Int32} (hl_l1 : (l1.length : Int) = x4.toInt) (hr0 : x4.toInt < x1.toInt) {f_p1_2 f_p1_3 : Value} {w_p1 : Bool} {w_p2 : Bool} {ad_p2 : String} {F : List Ent} (mp1 : (p1, w_p1, oStringBuilder (vr p2) (vi 0) f_p1_2 f_p1_3) ∈ F) (mp2 : (p2, w_p2, ar ad_p2 .byte (lm l1)) ∈ F) : Con Z EL y13 y13b 6 y13r (rmm 2 0 0 29) [(vr p1), (vi x1)] (F) (fun v D' => (Cd .lt (x1 - x4) (x4 + (2 : Int32)) ∧ v = some (vi (x4 + (x4 + (2 : Int32)))) ∧ F = D') ∨ (¬ Cd .lt (x1 - x4) (x4 + (2 : Int32)) ∧ v = some (vi (x4 + (x1 - x4))) ∧ F = D')) := by
  refine Con.of (ls := #[rv p1, iv x1, uu, uu, uu, uu]) (by decide +kernel) rfl ?_
  refine W.aloadN d49_0 rfl rfl ?_
  refine W.getf d49_1 (wq hw 100 rfl) Via.refl mp1 m0 ?_
  refine W.alenS (l := l1) (z := x4) d49_4 mp2 hl_l1 ?_
  refine W.istoreN (ls' := #[rv p1, iv x1, iv x4, uu, uu, uu]) d49_5 rfl ?_
  refine W.iloadN d49_6 rfl ?_
  refine W.aloadN d49_7 rfl rfl ?_
  refine W.getf d49_8 (wq hw 102 rfl) Via.refl mp1 m1 ?_
  refine W.ishlK x1 d49_11 (z_shl0 x1) ?_
  refine W.istoreN (ls' := #[rv p1, iv x1, iv x4, iv x1, uu, uu]) d49_12 rfl ?_
  refine W.iloadN d49_13 rfl ?_
  refine W.iloadN d49_14 rfl ?_
  refine W.isub d49_15 ?_
  refine W.istore (ls' := #[rv p1, iv x1, iv x4, iv x1, iv (x1 - x4), uu]) d49_16 rfl ?_
  refine W.iloadN d49_18 rfl ?_
  refine W.iload d49_19 rfl ?_
  refine W.iloadN d49_21 rfl ?_
  refine W.iconst (2) d49_22 (by decide) ?_
  refine W.aloadN d49_23 rfl rfl ?_
  refine W.getf d49_24 (wq hw 102 rfl) Via.refl mp1 m1 ?_
  refine W.ishlK (2 : Int32) d49_27 (by decide) ?_
  refine W.iadd d49_28 ?_
  refine W.callS (as := [(vi x4), (vi (x1 - x4)), (vi (x4 + (2 : Int32)))]) 0 [] d49_29 (wq hw 273 rfl) (wq hw 274 rfl) (wq hw 275 rfl) (wq hw 276 rfl) (c71_newLength hw hs (hx1 := hx4) (hx2 := (by have := a_sub x1 x4; omega))) (by decide) pd_III_I rfl rfl rfl rfl (by decide) (fun v D' h => ?_)
  rcases h with ⟨h1, rfl, rfl⟩ | ⟨h2, rfl, rfl⟩
  ·
   have ih1 := t_lt h1
   show W _ _ _ _ _ _ _ _ _ _ _ _ 32 _ [(vi (x4 + (x4 + (2 : Int32))))]
   refine W.istore (ls' := #[rv p1, iv x1, iv x4, iv x1, iv (x1 - x4), iv (x4 + (x4 + (2 : Int32)))]) d49_32 rfl ?_
   refine W.iload d49_34 rfl ?_
   refine W.ldcI d49_36 (wq hw 282 rfl) ?_
   refine W.icmpY 51 d49_38 (y_ne (by have := q2; have := a_add x4 (2 : Int32); have := a_add x4 (x4 + (2 : Int32)); have := q2147483647; have := a_sub x1 x4; omega)) (by decide) ?_
   refine W.iload d49_51 rfl ?_
   refine W.aloadN d49_53 rfl rfl ?_
   refine W.getf d49_54 (wq hw 102 rfl) Via.refl mp1 m1 ?_
   refine W.ishrK (x4 + (x4 + (2 : Int32))) d49_57 (z_shr0 (x4 + (x4 + (2 : Int32)))) ?_
   exact W.ireturn d49_58 rfl (Or.inl rfl) rfl (by decide) (Or.inl ⟨h1, rfl, rfl⟩)
  ·
   have ih2 := f_lt h2
   show W _ _ _ _ _ _ _ _ _ _ _ _ 32 _ [(vi (x4 + (x1 - x4)))]
   refine W.istore (ls' := #[rv p1, iv x1, iv x4, iv x1, iv (x1 - x4), iv (x4 + (x1 - x4))]) d49_32 rfl ?_
   refine W.iload d49_34 rfl ?_
   refine W.ldcI d49_36 (wq hw 282 rfl) ?_
   refine W.icmpY 51 d49_38 (y_ne (by have := a_sub x1 x4; have := a_add x4 (x1 - x4); have := q2147483647; have := q2; have := a_add x4 (2 : Int32); omega)) (by decide) ?_
   refine W.iload d49_51 rfl ?_
   refine W.aloadN d49_53 rfl rfl ?_
   refine W.getf d49_54 (wq hw 102 rfl) Via.refl mp1 m1 ?_
   refine W.ishrK (x4 + (x1 - x4)) d49_57 (z_shr0 (x4 + (x1 - x4))) ?_
   exact W.ireturn d49_58 rfl (Or.inl rfl) rfl (by decide) (Or.inr ⟨h2, rfl, rfl⟩)
theorem c73_copyOf {Z a0} (hw : HW a0 Z) (hs : SF Z) {p1 : Addr} {x1 : Int32} (hx1 : 0 ≤ x1.toInt ∧ x1.toInt ≤ 127) {x2 : Int32} (hx2 : 0 ≤ x2.toInt ∧ x2.toInt ≤ 15) {l1 : List Int32} (hl_l1 : (l1.length : Int) = x2.toInt) (hr0 : x2.toInt < x1.toInt) {w_p1 : Bool} {ad_p1 : String} {F : List Ent} (mp1 : (p1, w_p1, ar ad_p1 .byte (lm l1)) ∈ F) : Con Z EL y15 y15b 3 y15r (rmm 1 1 255 48) [(vr p1), (vi x1)] (F) (fun v D' => (∃ a1 : Addr, ¬ Cd .gt x2 x1 ∧ (((cpl l1 (0 : Int32).toInt.toNat (List.replicate x1.toInt.toNat (0 : Int32)) (0 : Int32).toInt.toNat x2.toInt.toNat)).length : Int) = x1.toInt ∧ v = some (vr a1) ∧ (a1, true, ar "[B" .byte (lm (cpl l1 (0 : Int32).toInt.toNat (List.replicate x1.toInt.toNat (0 : Int32)) (0 : Int32).toInt.toNat x2.toInt.toNat))) :: F = D')) := by
  refine Con.of (ls := #[rv p1, iv x1, uu]) (by decide +kernel) rfl ?_
  refine W.iloadN d52_0 rfl ?_
  refine W.aloadN d52_1 rfl rfl ?_
  refine W.alenS (l := l1) (z := x2) d52_2 mp1 hl_l1 ?_
  refine W.icmpY 14 d52_3 (y_ne (by omega)) (by decide) ?_
  refine W.iloadN d52_14 rfl ?_
  have hl2 := len_rep (z := x1) (by have := q0; omega)
  refine W.newarrB 255 d52_15 (wq hw 8 rfl) (by have := q0; have := q255; omega) (by decide) (by decide) (fun a1 => ?_)
  show W _ _ _ _ _ _ _ _ _ _ _ _ 17 _ [(vr a1)]
  refine W.astoreN (ls' := #[rv p1, iv x1, rv a1]) d52_17 rfl rfl ?_
  refine W.aloadN d52_18 rfl rfl ?_
  refine W.iconst (0) d52_19 (by decide) ?_
  refine W.aloadN d52_20 rfl rfl ?_
  refine W.iconst (0) d52_21 (by decide) ?_
  refine W.aloadN d52_22 rfl rfl ?_
  refine W.alenS (l := l1) (z := x2) d52_23 (mS mp1) hl_l1 ?_
  refine W.iloadN d52_24 rfl ?_
  refine W.callS (as := [(vi x2), (vi x1)]) 4 [(vi 0), (vr a1), (vi 0), (vr p1)] d52_25 (wq hw 286 rfl) (wq hw 287 rfl) (wq hw 279 rfl) (wq hw 288 rfl) (c58_min hw hs (hx1 := (by omega)) (hx2 := hx1)) (by decide) pd_II_I rfl rfl rfl rfl (by decide) (fun v D' h => ?_)
  rcases h with ⟨h1, rfl, rfl⟩ | ⟨h2, rfl, rfl⟩
  ·
   exact absurd h1 (n_gt (by omega))
  ·
   have ih2 := f_gt h2
   show W _ _ _ _ _ _ _ _ _ _ _ _ 28 _ [(vi x2), (vi 0), (vr a1), (vi 0), (vr p1)]
   have hl3 := len_cplI (l1 := l1) (l2 := (List.replicate x1.toInt.toNat (0 : Int32))) (s := (0 : Int32)) (d := (0 : Int32)) (n := x2) hl_l1 hl2 (by have := q0; omega)
   refine W.cpyS (l1 := l1) (l2 := (List.replicate x1.toInt.toNat (0 : Int32))) (D' := (a1, true, ar "[B" .byte (lm (cpl l1 (0 : Int32).toInt.toNat (List.replicate x1.toInt.toNat (0 : Int32)) (0 : Int32).toInt.toNat x2.toInt.toNat))) :: F) 0 0 d52_28 (wq hw 289 rfl) (wq hw 292 rfl) (wq hw 290 rfl) (wq hw 291 rfl) (mS mp1) rfl rfl (by have := hl_l1; have := hl2; have := q0; omega) rfl rfl (by decide) rfl ?_
   refine W.aloadN d52_31 rfl rfl ?_
   exact W.areturn d52_32 rfl rfl rfl (by decide) ⟨a1, h2, hl3, rfl, rfl⟩
theorem c69_ensureCapacityInternal {Z a0} (hw : HW a0 Z) (hs : SF Z) {p1 p2 : Addr} {x1 : Int32} (hx1 : 0 ≤ x1.toInt ∧ x1.toInt ≤ 15) {x4 : Int32} (hx4 : 0 ≤ x4.toInt ∧ x4.toInt ≤ 31) {l1 : List Int32} (hl_l1 : (l1.length : Int) = x4.toInt) {f_p1_2 f_p1_3 : Value} {w_p2 : Bool} {ad_p2 : String} {F : List Ent} (mp2 : (p2, w_p2, ar ad_p2 .byte (lm l1)) ∈ F) : Con Z EL y16 y16b 3 y16r (rmm 3 1 255 63) [(vr p1), (vi x1)] ((p1, true, oStringBuilder (vr p2) (vi 0) f_p1_2 f_p1_3) :: F) (fun v D' => (Cd .le (x1 - x4) (0 : Int32) ∧ v = none ∧ (p1, true, oStringBuilder (vr p2) (vi 0) f_p1_2 f_p1_3) :: F = D') ∨ (∃ a1 : Addr, ¬ Cd .le (x1 - x4) (0 : Int32) ∧ Cd .lt (x1 - x4) (x4 + (2 : Int32)) ∧ ¬ Cd .gt x4 (x4 + (x4 + (2 : Int32))) ∧ (((cpl l1 (0 : Int32).toInt.toNat (List.replicate (x4 + (x4 + (2 : Int32))).toInt.toNat (0 : Int32)) (0 : Int32).toInt.toNat x4.toInt.toNat)).length : Int) = (x4 + (x4 + (2 : Int32))).toInt ∧ v = none ∧ (a1, true, ar "[B" .byte (lm (cpl l1 (0 : Int32).toInt.toNat (List.replicate (x4 + (x4 + (2 : Int32))).toInt.toNat (0 : Int32)) (0 : Int32).toInt.toNat x4.toInt.toNat))) :: (p1, true, oStringBuilder (vr a1) (vi 0) f_p1_2 f_p1_3) :: F = D') ∨ (∃ a3 : Addr, ¬ Cd .le (x1 - x4) (0 : Int32) ∧ ¬ Cd .lt (x1 - x4) (x4 + (2 : Int32)) ∧ ¬ Cd .gt x4 (x4 + (x1 - x4)) ∧ (((cpl l1 (0 : Int32).toInt.toNat (List.replicate (x4 + (x1 - x4)).toInt.toNat (0 : Int32)) (0 : Int32).toInt.toNat x4.toInt.toNat)).length : Int) = (x4 + (x1 - x4)).toInt ∧ v = none ∧ (a3, true, ar "[B" .byte (lm (cpl l1 (0 : Int32).toInt.toNat (List.replicate (x4 + (x1 - x4)).toInt.toNat (0 : Int32)) (0 : Int32).toInt.toNat x4.toInt.toNat))) :: (p1, true, oStringBuilder (vr a3) (vi 0) f_p1_2 f_p1_3) :: F = D')) := by
  refine Con.of (ls := #[rv p1, iv x1, uu]) (by decide +kernel) rfl ?_
  refine W.aloadN d15_0 rfl rfl ?_
  refine W.getf d15_1 (wq hw 100 rfl) Via.refl m0 m0 ?_
  refine W.alenS (l := l1) (z := x4) d15_4 (mS mp2) hl_l1 ?_
  refine W.aloadN d15_5 rfl rfl ?_
  refine W.getf d15_6 (wq hw 102 rfl) Via.refl m0 m1 ?_
  refine W.ishrK x4 d15_9 (z_shr0 x4) ?_
  refine W.istoreN (ls' := #[rv p1, iv x1, iv x4]) d15_10 rfl ?_
  refine W.iloadN d15_11 rfl ?_
  refine W.iloadN d15_12 rfl ?_
  refine W.isub d15_13 ?_
  refine W.if 38 d15_14 (by decide) (fun h1 => ?_) (fun h1 => ?_)
  ·
   have ih1 := t_le h1
   exact W.return_ d15_38 rfl (by decide) (Or.inl ⟨h1, rfl, rfl⟩)
  ·
   have ih1 := f_le h1
   refine W.aloadN d15_17 rfl rfl ?_
   refine W.aloadN d15_18 rfl rfl ?_
   refine W.getf d15_19 (wq hw 100 rfl) Via.refl m0 m0 ?_
   refine W.aloadN d15_22 rfl rfl ?_
   refine W.iloadN d15_23 rfl ?_
   refine W.callP (as := [(vi x1)]) 2 [(vr p2), (vr p1)] d15_24 (wq hw 268 rfl) (wq hw 269 rfl) (wq hw 271 rfl) (wq hw 270 rfl) (wq hw 96 rfl) (wq hw 272 rfl) (Hp.exa m0) (c70_newCapacity hw hs (hx1 := hx1) (hx4 := (by have := q0; have := a_sub x1 x4; omega)) (hr0 := by have := q0; have := a_sub x1 x4; omega) (l1 := l1) (hl_l1 := hl_l1) (mp1 := m0) (mp2 := (mS mp2))) (by decide) pd_I_I rfl rfl rfl rfl (by decide) (fun v D' h => ?_)
   rcases h with ⟨h2, rfl, rfl⟩ | ⟨h3, rfl, rfl⟩
   ·
    have ih2 := t_lt h2
    show W _ _ _ _ _ _ _ _ _ _ _ _ 27 _ [(vi (x4 + (x4 + (2 : Int32)))), (vr p2), (vr p1)]
    refine W.aloadN d15_27 rfl rfl ?_
    refine W.getf d15_28 (wq hw 102 rfl) Via.refl m0 m1 ?_
    refine W.ishlK (x4 + (x4 + (2 : Int32))) d15_31 (z_shl0 (x4 + (x4 + (2 : Int32)))) ?_
    refine W.callS (as := [(vr p2), (vi (x4 + (x4 + (2 : Int32))))]) 1 [(vr p1)] d15_32 (wq hw 283 rfl) (wq hw 284 rfl) (wq hw 167 rfl) (wq hw 285 rfl) (c73_copyOf hw hs (hx1 := (by have := q2; have := a_add x4 (2 : Int32); have := a_add x4 (x4 + (2 : Int32)); have := q0; have := a_sub x1 x4; omega)) (hx2 := (by have := q0; have := a_sub x1 x4; have := q2; have := a_add x4 (2 : Int32); omega)) (hr0 := by have := q2; have := a_add x4 (2 : Int32); have := a_add x4 (x4 + (2 : Int32)); have := q0; have := a_sub x1 x4; omega) (l1 := l1) (hl_l1 := hl_l1) (mp1 := (mS mp2))) (by decide) pd__BI__B rfl rfl rfl rfl (by decide) (fun v D' h => ?_)
    obtain ⟨a1, h4, hl2, rfl, rfl⟩ := h
    have ih4 := f_gt h4
    show W _ _ _ _ _ _ _ _ _ _ _ _ 35 _ [(vr a1), (vr p1)]
    refine W.putf (D' := (a1, true, ar "[B" .byte (lm (cpl l1 (0 : Int32).toInt.toNat (List.replicate (x4 + (x4 + (2 : Int32))).toInt.toNat (0 : Int32)) (0 : Int32).toInt.toNat x4.toInt.toNat))) :: (p1, true, oStringBuilder (vr a1) (vi 0) f_p1_2 f_p1_3) :: F) 1 0 d15_35 (wq hw 100 rfl) Via.refl rfl rfl (Or.inl (wq hw 101 rfl)) (wq hw 87 rfl) pf_B rfl rfl rfl ?_
    exact W.return_ d15_38 rfl (by decide) (Or.inr (Or.inl ⟨a1, h1, h2, h4, hl2, rfl, rfl⟩))
   ·
    have ih3 := f_lt h3
    show W _ _ _ _ _ _ _ _ _ _ _ _ 27 _ [(vi (x4 + (x1 - x4))), (vr p2), (vr p1)]
    refine W.aloadN d15_27 rfl rfl ?_
    refine W.getf d15_28 (wq hw 102 rfl) Via.refl m0 m1 ?_
    refine W.ishlK (x4 + (x1 - x4)) d15_31 (z_shl0 (x4 + (x1 - x4))) ?_
    refine W.callS (as := [(vr p2), (vi (x4 + (x1 - x4)))]) 1 [(vr p1)] d15_32 (wq hw 283 rfl) (wq hw 284 rfl) (wq hw 167 rfl) (wq hw 285 rfl) (c18_copyOf hw hs (hx1 := (by have := a_sub x1 x4; have := a_add x4 (x1 - x4); have := q0; have := q2; have := a_add x4 (2 : Int32); omega)) (hx2 := (by have := q0; have := a_sub x1 x4; have := q2; have := a_add x4 (2 : Int32); omega)) (hr0 := by have := a_sub x1 x4; have := a_add x4 (x1 - x4); have := q0; have := q2; have := a_add x4 (2 : Int32); omega) (l1 := l1) (hl_l1 := hl_l1) (mp1 := (mS mp2))) (by decide) pd__BI__B rfl rfl rfl rfl (by decide) (fun v D' h => ?_)
    obtain ⟨a3, h5, hl4, rfl, rfl⟩ := h
    have ih5 := f_gt h5
    show W _ _ _ _ _ _ _ _ _ _ _ _ 35 _ [(vr a3), (vr p1)]
    refine W.putf (D' := (a3, true, ar "[B" .byte (lm (cpl l1 (0 : Int32).toInt.toNat (List.replicate (x4 + (x1 - x4)).toInt.toNat (0 : Int32)) (0 : Int32).toInt.toNat x4.toInt.toNat))) :: (p1, true, oStringBuilder (vr a3) (vi 0) f_p1_2 f_p1_3) :: F) 1 0 d15_35 (wq hw 100 rfl) Via.refl rfl rfl (Or.inl (wq hw 101 rfl)) (wq hw 87 rfl) pf_B rfl rfl rfl ?_
    exact W.return_ d15_38 rfl (by decide) (Or.inr (Or.inr ⟨a3, h1, h3, h5, hl4, rfl, rfl⟩))
theorem c68_append {Z a0} (hw : HW a0 Z) (hs : SF Z) {p1 p2 p3 : Addr} {x1 : Int32} (hx1 : 0 ≤ x1.toInt ∧ x1.toInt ≤ 7) {x2 : Int32} (hx2 : 0 ≤ x2.toInt ∧ x2.toInt ≤ 7) {x3 : Int32} (hx3 : 0 ≤ x3.toInt ∧ x3.toInt ≤ 7) {x5 : Int32} (hx5 : 0 ≤ x5.toInt ∧ x5.toInt ≤ 31) {l1 : List Int32} (hl_l1 : (l1.length : Int) = (3 : Int32).toInt) (hb_l1 : ∀ x ∈ l1, 0 ≤ x.toInt ∧ x.toInt ≤ 65535) {l2 : List Int32} (hl_l2 : (l2.length : Int) = x5.toInt) (hr0 : (x1 + x2).toInt ≤ (3 : Int32).toInt) (hr1 : x3.toInt ≤ x5.toInt) {f_p1_3 : Value} {w_p2 : Bool} {ad_p2 : String} {F : List Ent} (mp2 : (p2, w_p2, ar ad_p2 .char (lm l1)) ∈ F) : Con Z EL y34 y34b 5 y34r (rmm 7 2 510 109) [(vr p1), (vr p2), (vi x1), (vi x2)] ((p3, true, ar "[B" .byte (lm l2)) :: (p1, true, oStringBuilder (vr p3) (vi 0) (vi x3) f_p1_3) :: F) (fun v D' => (∃ a2 : Addr, ∃ g3 : Int32, ∃ gl6 : List Int32, (-31 ≤ g3.toInt ∧ g3.toInt ≤ 64) ∧ (x3 + x2).toInt ≤ g3.toInt ∧ (gl6.length : Int) = g3.toInt ∧ App 0 l2 x3.toInt.toNat 0 gl6 l1 x1.toInt.toNat x2.toInt.toNat ∧ v = some (vr p1) ∧ (a2, true, ar "[B" .byte (lm gl6)) :: (p1, true, oStringBuilder (vr a2) (vi 0) (vi (x3 + x2)) f_p1_3) :: F = D') ∨ (∃ a8 : Addr, ∃ g3 : Int32, ∃ gl9 : List Int32, (-31 ≤ g3.toInt ∧ g3.toInt ≤ 64) ∧ (x3 + x2).toInt ≤ g3.toInt ∧ (gl9.length : Int) = (g3 <<< ((1 : Int32) &&& 31)).toInt ∧ App 0 l2 x3.toInt.toNat 1 gl9 l1 x1.toInt.toNat x2.toInt.toNat ∧ v = some (vr p1) ∧ (a8, true, ar "[B" .byte (lm gl9)) :: (p1, true, oStringBuilder (vr a8) (vi 1) (vi (x3 + x2)) f_p1_3) :: F = D')) := by
  refine Con.of (ls := #[rv p1, rv p2, iv x1, iv x2, uu]) (by decide +kernel) rfl ?_
  refine W.iloadN d13_0 rfl ?_
  refine W.iloadN d13_1 rfl ?_
  refine W.iadd d13_2 ?_
  refine W.istore (ls' := #[rv p1, rv p2, iv x1, iv x2, iv (x1 + x2)]) d13_3 rfl ?_
  refine W.iloadN d13_5 rfl ?_
  refine W.iload d13_6 rfl ?_
  refine W.aloadN d13_8 rfl rfl ?_
  refine W.alenS (l := l1) (z := (3 : Int32)) d13_9 (mS (mS mp2)) hl_l1 ?_
  refine W.gets d13_10 (wq hw 114 rfl) Via.refl hs.2.2.2.2.2.1 ?_
  refine W.callS (as := [(vi x1), (vi (x1 + x2)), (vi 3), (ifv Z)]) 0 [] d13_13 (wq hw 117 rfl) (wq hw 118 rfl) (wq hw 115 rfl) (wq hw 119 rfl) (c13_checkFromToIndex hw hs (hx1 := (by have := a_add x1 x2; have := q3; omega)) (hx2 := (by have := a_add x1 x2; have := q3; omega)) (hx3 := (by decide)) (hr0 := by have := q0; have := a_add x1 x2; have := q3; omega) (hr1 := by have := a_add x1 x2; have := q3; omega) (hr2 := by have := a_add x1 x2; have := q3; omega)) (by decide) pd_IIILjava_util_function_BiFunction__I rfl rfl rfl rfl (by decide) (fun v D' h => ?_)
  obtain ⟨rfl, rfl⟩ := h
  show W _ _ _ _ _ _ _ _ _ _ _ _ 16 _ [(vi x1)]
  refine W.popv d13_16 rfl ?_
  have K5 : ∀ (a2 : Addr) (g3 : Int32) (gl4 : List Int32), -31 ≤ g3.toInt ∧ g3.toInt ≤ 64 → (gl4.length : Int) = g3.toInt → ((x3 + x2).toInt ≤ g3.toInt) → (∀ i, i < x3.toInt.toNat → dc 0 gl4 i = dc 0 l2 i) → W Z EL (rmm 7 2 510 109) "java/lang/AbstractStringBuilder" "append" jdk_68_method_29_code 5 (Option.some (Jvm.ClassFile.FieldType.object "java/lang/AbstractStringBuilder")) (fun v D' => (∃ a2 : Addr, ∃ g3 : Int32, ∃ gl6 : List Int32, (-31 ≤ g3.toInt ∧ g3.toInt ≤ 64) ∧ (x3 + x2).toInt ≤ g3.toInt ∧ (gl6.length : Int) = g3.toInt ∧ App 0 l2 x3.toInt.toNat 0 gl6 l1 x1.toInt.toNat x2.toInt.toNat ∧ v = some (vr p1) ∧ (a2, true, ar "[B" .byte (lm gl6)) :: (p1, true, oStringBuilder (vr a2) (vi 0) (vi (x3 + x2)) f_p1_3) :: F = D') ∨ (∃ a8 : Addr, ∃ g3 : Int32, ∃ gl9 : List Int32, (-31 ≤ g3.toInt ∧ g3.toInt ≤ 64) ∧ (x3 + x2).toInt ≤ g3.toInt ∧ (gl9.length : Int) = (g3 <<< ((1 : Int32) &&& 31)).toInt ∧ App 0 l2 x3.toInt.toNat 1 gl9 l1 x1.toInt.toNat x2.toInt.toNat ∧ v = some (vr p1) ∧ (a8, true, ar "[B" .byte (lm gl9)) :: (p1, true, oStringBuilder (vr a8) (vi 1) (vi (x3 + x2)) f_p1_3) :: F = D')) ((p1, true, oStringBuilder (vr a2) (vi 0) (vi x3) f_p1_3) :: (a2, true, ar "[B" .byte (lm gl4)) :: F) 1 255 27 #[rv p1, rv p2, iv x1, iv x2, iv (x1 + x2)] [] := by
   intro a2 g3 gl4 hg3 hgl4 hN hD
   refine W.aloadN d13_27 rfl rfl ?_
   refine W.aloadN d13_28 rfl rfl ?_
   refine W.iloadN d13_29 rfl ?_
   refine W.iload d13_30 rfl ?_
   refine W.front 1 (D' := (a2, true, ar "[B" .byte (lm gl4)) :: (p1, true, oStringBuilder (vr a2) (vi 0) (vi x3) f_p1_3) :: F) rfl rfl ?_
   refine W.callP (as := [(vr p2), (vi x1), (vi (x1 + x2))]) 0 [] d13_32 (wq hw 127 rfl) (wq hw 128 rfl) (wq hw 130 rfl) (wq hw 129 rfl) (wq hw 96 rfl) (wq hw 131 rfl) (Hp.exa m1) (c20_appendChars hw hs (hx1 := (by have := a_add x1 x2; have := q3; have := a_add x3 x2; omega)) (hx2 := (by have := a_add x1 x2; have := q3; have := a_add x3 x2; omega)) (hx3 := (by have := a_add x3 x2; have := a_add x1 x2; have := q3; omega)) (hx5 := (by have := a_add x3 x2; have := a_add x1 x2; have := q3; omega)) (hr0 := by have := a_add x1 x2; have := q3; have := a_add x3 x2; omega) (hr1 := by have := a_add x1 x2; have := q3; have := a_add x3 x2; omega) (hr2 := by have := a_add x1 x2; have := a_add x3 (x1 + x2); have := a_add g3 x1; have := q3; have := a_add x3 x2; omega) (l1 := l1) (hl_l1 := hl_l1) (hb_l1 := hb_l1) (l2 := gl4) (hl_l2 := hgl4) (mp2 := mp2)) (by decide) pd__CII_V rfl rfl rfl rfl (by decide) (fun v D' h => ?_)
   rcases h with ⟨gl6, hgl6, hp7, rfl, rfl⟩ | ⟨a8, gl9, gl10, hgl9, hgl10, hp11, rfl, rfl⟩
   ·
    show W _ _ _ _ _ _ _ _ _ _ _ _ 35 _ []
    rw [show ((x3 + (x1 + x2)) - x1) = (x3 + x2) from eqI (by have := a_add x1 x2; have := a_add x3 (x1 + x2); have := a_sub (x3 + (x1 + x2)) x1; have := a_add x3 x2; have := q3; omega)]
    have hz := app_base hD hp7 (m' := x2.toInt.toNat) (by have := a_add x1 x2; have := a_sub (x1 + x2) x1; have := q3; have := a_add x3 x2; omega)
    refine W.aloadN d13_35 rfl rfl ?_
    exact W.areturn d13_36 rfl rfl rfl (by decide) (Or.inl ⟨a2, g3, gl6, hg3, hN, hgl6, hz, rfl, rfl⟩)
   ·
    show W _ _ _ _ _ _ _ _ _ _ _ _ 35 _ []
    rw [show ((x3 + (x1 + x2)) - x1) = (x3 + x2) from eqI (by have := a_add x1 x2; have := a_add x3 (x1 + x2); have := a_sub (x3 + (x1 + x2)) x1; have := a_add x3 x2; have := q3; omega)]
    have hz := app_base hD hp11 (m' := x2.toInt.toNat) (by have := a_add x1 x2; have := a_sub (x1 + x2) x1; have := q3; have := a_add x3 x2; omega)
    refine W.aloadN d13_35 rfl rfl ?_
    refine W.dropAt 2 (D' := (a8, true, ar "[B" .byte (lm gl9)) :: (p1, true, oStringBuilder (vr a8) (vi 1) (vi (x3 + x2)) f_p1_3) :: F) rfl ?_
    exact W.areturn d13_36 rfl rfl rfl (by decide) (Or.inr ⟨a8, g3, gl9, hg3, hN, hgl9, hz, rfl, rfl⟩)
  refine W.aloadN d13_17 rfl rfl ?_
  refine W.aloadN d13_18 rfl rfl ?_
  refine W.getf d13_19 (wq hw 120 rfl) Via.refl m1 m2 ?_
  refine W.iloadN d13_22 rfl ?_
  refine W.iadd d13_23 ?_
  refine W.front 1 (D' := (p1, true, oStringBuilder (vr p3) (vi 0) (vi x3) f_p1_3) :: (p3, true, ar "[B" .byte (lm l2)) :: F) rfl rfl ?_
  refine W.callP (as := [(vi (x3 + x2))]) 0 [] d13_24 (wq hw 122 rfl) (wq hw 123 rfl) (wq hw 125 rfl) (wq hw 124 rfl) (wq hw 96 rfl) (wq hw 126 rfl) (Hp.exa m0) (c69_ensureCapacityInternal hw hs (hx1 := (by have := a_add x3 x2; have := a_add x1 x2; have := q3; omega)) (hx4 := hx5) (l1 := l2) (hl_l1 := hl_l2) (mp2 := m0)) (by decide) pd_I_V rfl rfl rfl rfl (by decide) (fun v D' h => ?_)
  rcases h with ⟨h1, rfl, rfl⟩ | ⟨a12, h2, h3, h4, hl13, rfl, rfl⟩ | ⟨a14, h5, h6, h7, hl15, rfl, rfl⟩
  ·
   have ih1 := t_le h1
   show W _ _ _ _ _ _ _ _ _ _ _ _ 27 _ []
   exact W.mono (by decide) (by decide) (K5 p3 x5 l2 (by have := a_add x3 x2; have := a_sub (x3 + x2) x5; have := q0; have := a_add x1 x2; have := q3; omega) hl_l2 (by have := a_add x3 x2; have := a_add x1 x2; have := q3; have := a_sub (x3 + x2) x5; have := q0; omega) (fun _ _ => rfl))
  ·
   have ih2 := f_le h2
   have ih3 := t_lt h3
   have ih4 := f_gt h4
   show W _ _ _ _ _ _ _ _ _ _ _ _ 27 _ []
   refine W.front 1 (D' := (p1, true, oStringBuilder (vr a12) (vi 0) (vi x3) f_p1_3) :: (a12, true, ar "[B" .byte (lm (cpl l2 (0 : Int32).toInt.toNat (List.replicate (x5 + (x5 + (2 : Int32))).toInt.toNat (0 : Int32)) (0 : Int32).toInt.toNat x5.toInt.toNat))) :: (p3, true, ar "[B" .byte (lm l2)) :: F) rfl rfl ?_
   refine W.heap (fun _ _ H => H.sub ((((List.Sublist.refl _).cons _).cons_cons _).cons_cons _)) ?_
   exact W.mono (by decide) (by decide) (K5 a12 (x5 + (x5 + (2 : Int32))) (cpl l2 (0 : Int32).toInt.toNat (List.replicate (x5 + (x5 + (2 : Int32))).toInt.toNat (0 : Int32)) (0 : Int32).toInt.toNat x5.toInt.toNat) (by have := q2; have := a_add x5 (2 : Int32); have := a_add x5 (x5 + (2 : Int32)); have := q0; have := a_add x3 x2; have := a_sub (x3 + x2) x5; have := a_add x1 x2; have := q3; omega) hl13 (by have := a_add x3 x2; have := q2; have := a_add x5 (2 : Int32); have := a_add x5 (x5 + (2 : Int32)); have := a_add x1 x2; have := q3; have := q0; have := a_sub (x3 + x2) x5; omega) (fun i hi => dc_cplI (by have := q2; have := a_add x5 (2 : Int32); have := a_add x5 (x5 + (2 : Int32)); have := q0; have := a_add x3 x2; have := a_sub (x3 + x2) x5; have := a_add x1 x2; have := q3; omega) (by have := hl_l2; have := q2; have := a_add x5 (2 : Int32); have := a_add x5 (x5 + (2 : Int32)); have := q0; have := a_add x3 x2; have := a_sub (x3 + x2) x5; have := a_add x1 x2; have := q3; omega) (by have := len_rep (z := (x5 + (x5 + (2 : Int32)))) (by have := q2; have := a_add x5 (2 : Int32); have := a_add x5 (x5 + (2 : Int32)); have := q0; have := a_add x3 x2; have := a_sub (x3 + x2) x5; have := a_add x1 x2; have := q3; omega); have := q2; have := a_add x5 (2 : Int32); have := a_add x5 (x5 + (2 : Int32)); have := q0; have := a_add x3 x2; have := a_sub (x3 + x2) x5; have := a_add x1 x2; have := q3; omega)))
  ·
   have ih5 := f_le h5
   have ih6 := f_lt h6
   have ih7 := f_gt h7
   show W _ _ _ _ _ _ _ _ _ _ _ _ 27 _ []
   refine W.front 1 (D' := (p1, true, oStringBuilder (vr a14) (vi 0) (vi x3) f_p1_3) :: (a14, true, ar "[B" .byte (lm (cpl l2 (0 : Int32).toInt.toNat (List.replicate (x5 + ((x3 + x2) - x5)).toInt.toNat (0 : Int32)) (0 : Int32).toInt.toNat x5.toInt.toNat))) :: (p3, true, ar "[B" .byte (lm l2)) :: F) rfl rfl ?_
   refine W.heap (fun _ _ H => H.sub ((((List.Sublist.refl _).cons _).cons_cons _).cons_cons _)) ?_
   exact W.mono (by decide) (by decide) (K5 a14 (x5 + ((x3 + x2) - x5)) (cpl l2 (0 : Int32).toInt.toNat (List.replicate (x5 + ((x3 + x2) - x5)).toInt.toNat (0 : Int32)) (0 : Int32).toInt.toNat x5.toInt.toNat) (by have := a_add x3 x2; have := a_sub (x3 + x2) x5; have := a_add x5 ((x3 + x2) - x5); have := a_add x1 x2; have := q3; have := q0; have := q2; have := a_add x5 (2 : Int32); omega) hl15 (by have := a_add x3 x2; have := a_sub (x3 + x2) x5; have := a_add x5 ((x3 + x2) - x5); have := a_add x1 x2; have := q3; have := q0; have := q2; have := a_add x5 (2 : Int32); omega) (fun i hi => dc_cplI (by have := a_add x3 x2; have := a_sub (x3 + x2) x5; have := a_add x5 ((x3 + x2) - x5); have := q0; have := a_add x1 x2; have := q3; have := q2; have := a_add x5 (2 : Int32); omega) (by have := hl_l2; have := a_add x3 x2; have := a_sub (x3 + x2) x5; have := a_add x5 ((x3 + x2) - x5); have := q0; have := a_add x1 x2; have := q3; have := q2; have := a_add x5 (2 : Int32); omega) (by have := len_rep (z := (x5 + ((x3 + x2) - x5))) (by have := a_add x3 x2; have := a_sub (x3 + x2) x5; have := a_add x5 ((x3 + x2) - x5); have := q0; have := a_add x1 x2; have := q3; have := q2; have := a_add x5 (2 : Int32); omega); have := a_add x3 x2; have := a_sub (x3 + x2) x5; have := a_add x5 ((x3 + x2) - x5); have := q0; have := a_add x1 x2; have := q3; have := q2; have := a_add x5 (2 : Int32); omega)))
theorem c67_append {Z a0} (hw : HW a0 Z) (hs : SF Z) {p1 p2 p3 : Addr} {x1 : Int32} (hx1 : 0 ≤ x1.toInt ∧ x1.toInt ≤ 7) {x2 : Int32} (hx2 : 0 ≤ x2.toInt ∧ x2.toInt ≤ 7) {x3 : Int32} (hx3 : 0 ≤ x3.toInt ∧ x3.toInt ≤ 7) {x5 : Int32} (hx5 : 0 ≤ x5.toInt ∧ x5.toInt ≤ 31) {l1 : List Int32} (hl_l1 : (l1.length : Int) = (3 : Int32).toInt) (hb_l1 : ∀ x ∈ l1, 0 ≤ x.toInt ∧ x.toInt ≤ 65535) {l2 : List Int32} (hl_l2 : (l2.length : Int) = x5.toInt) (hr0 : (x1 + x2).toInt ≤ (3 : Int32).toInt) (hr1 : x3.toInt ≤ x5.toInt) {f_p1_3 : Value} {w_p2 : Bool} {ad_p2 : String} {F : List Ent} (mp2 : (p2, w_p2, ar ad_p2 .char (lm l1)) ∈ F) : Con Z EL y35 y35b 4 y35r (rmm 8 2 510 125) [(vr p1), (vr p2), (vi x1), (vi x2)] ((p3, true, ar "[B" .byte (lm l2)) :: (p1, true, oStringBuilder (vr p3) (vi 0) (vi x3) f_p1_3) :: F) (fun v D' => (∃ a1 : Addr, ∃ g2 : Int32, ∃ gl4 : List Int32, (-31 ≤ g2.toInt ∧ g2.toInt ≤ 64) ∧ (x3 + x2).toInt ≤ g2.toInt ∧ (gl4.length : Int) = g2.toInt ∧ App 0 l2 x3.toInt.toNat 0 gl4 l1 x1.toInt.toNat x2.toInt.toNat ∧ v = some (vr p1) ∧ (a1, true, ar "[B" .byte (lm gl4)) :: (p1, true, oStringBuilder (vr a1) (vi 0) (vi (x3 + x2)) f_p1_3) :: F = D') ∨ (∃ a6 : Addr, ∃ g7 : Int32, ∃ gl9 : List Int32, (-31 ≤ g7.toInt ∧ g7.toInt ≤ 64) ∧ (x3 + x2).toInt ≤ g7.toInt ∧ (gl9.length : Int) = (g7 <<< ((1 : Int32) &&& 31)).toInt ∧ App 0 l2 x3.toInt.toNat 1 gl9 l1 x1.toInt.toNat x2.toInt.toNat ∧ v = some (vr p1) ∧ (a6, true, ar "[B" .byte (lm gl9)) :: (p1, true, oStringBuilder (vr a6) (vi 1) (vi (x3 + x2)) f_p1_3) :: F = D')) := by
  refine Con.of (ls := #[rv p1, rv p2, iv x1, iv x2]) (by decide +kernel) rfl ?_
  refine W.aloadN d12_0 rfl rfl ?_
  refine W.aloadN d12_1 rfl rfl ?_
  refine W.iloadN d12_2 rfl ?_
  refine W.iloadN d12_3 rfl ?_
  refine W.callUp (as := [(vr p2), (vi x1), (vi x2)]) 0 [] d12_4 (wq hw 109 rfl) (same_self (by rfl) (by decide) (wq hw 110 rfl) (wq hw 123 rfl) (wq hw 125 rfl)) (wq hw 110 rfl) (wq hw 111 rfl) (by decide) (wq hw 96 rfl) (wq hw 113 rfl) (Hp.ins m1) (c68_append hw hs (hx1 := hx1) (hx2 := hx2) (hx3 := hx3) (hx5 := hx5) (hr0 := by have := a_add x1 x2; have := q3; omega) (hr1 := by omega) (l1 := l1) (hl_l1 := hl_l1) (hb_l1 := hb_l1) (l2 := l2) (hl_l2 := hl_l2) (mp2 := mp2)) pd__CII_Ljava_lang_AbstractStringBuilder_ rfl rfl rfl rfl (by decide) (fun v D' h => ?_)
  rcases h with ⟨a1, g2, gl4, hg2, hf3, hgl4, hp5, rfl, rfl⟩ | ⟨a6, g7, gl9, hg7, hf8, hgl9, hp10, rfl, rfl⟩
  ·
   show W _ _ _ _ _ _ _ _ _ _ _ _ 7 _ [(vr p1)]
   refine W.popv d12_7 rfl ?_
   refine W.aloadN d12_8 rfl rfl ?_
   exact W.areturn d12_9 rfl rfl rfl (by decide) (Or.inl ⟨a1, g2, gl4, hg2, hf3, hgl4, hp5, rfl, rfl⟩)
  ·
   show W _ _ _ _ _ _ _ _ _ _ _ _ 7 _ [(vr p1)]
   refine W.popv d12_7 rfl ?_
   refine W.aloadN d12_8 rfl rfl ?_
   exact W.areturn d12_9 rfl rfl rfl (by decide) (Or.inr ⟨a6, g7, gl9, hg7, hf8, hgl9, hp10, rfl, rfl⟩)
theorem c66_appendText {Z a0} (hw : HW a0 Z) (hs : SF Z) {p1 p2 p8 p12 : Addr} {x1 : Int32} (hx1 : 0 ≤ x1.toInt ∧ x1.toInt ≤ 7) {x2 : Int32} (hx2 : 0 ≤ x2.toInt ∧ x2.toInt ≤ 7) {x3 : Int32} (hx3 : 0 ≤ x3.toInt ∧ x3.toInt ≤ 7) {x4 : Int32} (hx4 : 0 ≤ x4.toInt ∧ x4.toInt ≤ 31) {l1 : List Int32} (hl_l1 : (l1.length : Int) = (3 : Int32).toInt) (hb_l1 : ∀ x ∈ l1, 0 ≤ x.toInt ∧ x.toInt ≤ 65535) {l2 : List Int32} (hl_l2 : (l2.length : Int) = x4.toInt) (hr0 : (x1 + x2).toInt ≤ (3 : Int32).toInt) (hr1 : x3.toInt ≤ x4.toInt) {f_p8_3 f_p1_0 f_p1_1 f_p1_2 f_p1_3 f_p1_4 f_p1_5 f_p1_6 : Value} {w_p1 : Bool} {w_p2 : Bool} {ad_p2 : String} {F : List Ent} (mp1 : (p1, w_p1, oXmlElement f_p1_0 f_p1_1 f_p1_2 f_p1_3 f_p1_4 f_p1_5 f_p1_6 (vr p8)) ∈ F) (mp2 : (p2, w_p2, ar ad_p2 .char (lm l1)) ∈ F) : Con Z EL y36 y36b 4 y36r (rmm 9 2 510 140) [(vr p1), (vr p2), (vi x1), (vi x2)] ((p12, true, ar "[B" .byte (lm l2)) :: (p8, true, oStringBuilder (vr p12) (vi 0) (vi x3) f_p8_3) :: F) (fun v D' => (∃ a1 : Addr, ∃ g2 : Int32, ∃ gl4 : List Int32, (-31 ≤ g2.toInt ∧ g2.toInt ≤ 64) ∧ (x3 + x2).toInt ≤ g2.toInt ∧ (gl4.length : Int) = g2.toInt ∧ App 0 l2 x3.toInt.toNat 0 gl4 l1 x1.toInt.toNat x2.toInt.toNat ∧ v = none ∧ (a1, true, ar "[B" .byte (lm gl4)) :: (p8, true, oStringBuilder (vr a1) (vi 0) (vi (x3 + x2)) f_p8_3) :: F = D') ∨ (∃ a6 : Addr, ∃ g7 : Int32, ∃ gl9 : List Int32, (-31 ≤ g7.toInt ∧ g7.toInt ≤ 64) ∧ (x3 + x2).toInt ≤ g7.toInt ∧ (gl9.length : Int) = (g7 <<< ((1 : Int32) &&& 31)).toInt ∧ App 0 l2 x3.toInt.toNat 1 gl9 l1 x1.toInt.toNat x2.toInt.toNat ∧ v = none ∧ (a6, true, ar "[B" .byte (lm gl9)) :: (p8, true, oStringBuilder (vr a6) (vi 1) (vi (x3 + x2)) f_p8_3) :: F = D')) := by
  refine Con.of (ls := #[rv p1, rv p2, iv x1, iv x2]) (by decide +kernel) rfl ?_
  refine W.aloadN d9_0 rfl rfl ?_
  refine W.getf d9_1 (wq hw 65 rfl) Via.refl (mS (mS mp1)) m7 ?_
  refine W.ifnonnullY 19 d9_4 (by decide) ?_
  refine W.aloadN d9_19 rfl rfl ?_
  refine W.getf d9_20 (wq hw 65 rfl) Via.refl (mS (mS mp1)) m7 ?_
  refine W.aloadN d9_23 rfl rfl ?_
  refine W.iloadN d9_24 rfl ?_
  refine W.iloadN d9_25 rfl ?_
  refine W.callV (as := [(vr p2), (vi x1), (vi x2)]) 0 [] d9_26 (wq hw 104 rfl) (wq hw 105 rfl) (wq hw 107 rfl) (wq hw 107 rfl) (wq hw 106 rfl) (wq hw 88 rfl) (wq hw 108 rfl) (Hp.exa m1) (c67_append hw hs (hx1 := hx1) (hx2 := hx2) (hx3 := hx3) (hx5 := hx4) (hr0 := by have := a_add x1 x2; have := q3; omega) (hr1 := by omega) (l1 := l1) (hl_l1 := hl_l1) (hb_l1 := hb_l1) (l2 := l2) (hl_l2 := hl_l2) (mp2 := mp2)) (by decide) pd__CII_Ljava_lang_StringBuilder_ rfl rfl rfl rfl (by decide) (fun v D' h => ?_)
  rcases h with ⟨a1, g2, gl4, hg2, hf3, hgl4, hp5, rfl, rfl⟩ | ⟨a6, g7, gl9, hg7, hf8, hgl9, hp10, rfl, rfl⟩
  ·
   show W _ _ _ _ _ _ _ _ _ _ _ _ 29 _ [(vr p8)]
   refine W.popv d9_29 rfl ?_
   exact W.return_ d9_30 rfl (by decide) (Or.inl ⟨a1, g2, gl4, hg2, hf3, hgl4, hp5, rfl, rfl⟩)
  ·
   show W _ _ _ _ _ _ _ _ _ _ _ _ 29 _ [(vr p8)]
   refine W.popv d9_29 rfl ?_
   exact W.return_ d9_30 rfl (by decide) (Or.inr ⟨a6, g7, gl9, hg7, hf8, hgl9, hp10, rfl, rfl⟩)
theorem c80_min {Z a0} (hw : HW a0 Z) (hs : SF Z) {x1 : Int32} (hx1 : 0 ≤ x1.toInt ∧ x1.toInt ≤ 255) {x2 : Int32} (hx2 : 0 ≤ x2.toInt ∧ x2.toInt ≤ 127) {F : List Ent} : Con Z EL y14 y14b 2 y14r (rmm 0 0 0 0) [(vi x1), (vi x2)] (F) (fun v D' => (Cd .gt x1 x2 ∧ v = some (vi x2) ∧ F = D') ∨ (¬ Cd .gt x1 x2 ∧ v = some (vi x1) ∧ F = D')) := by
  refine Con.of (ls := #[iv x1, iv x2]) (by decide +kernel) rfl ?_
  refine W.iloadN d53_0 rfl ?_
  refine W.iloadN d53_1 rfl ?_
  refine W.icmp 9 d53_2 (by decide) (fun h1 => ?_) (fun h1 => ?_)
  ·
   have ih1 := t_gt h1
   refine W.iloadN d53_9 rfl ?_
   exact W.ireturn d53_10 rfl (Or.inl rfl) rfl (by decide) (Or.inl ⟨h1, rfl, rfl⟩)
  ·
   have ih1 := f_gt h1
   refine W.iloadN d53_5 rfl ?_
   refine W.goto 10 d53_6 (by decide) ?_
   exact W.ireturn d53_10 rfl (Or.inl rfl) rfl (by decide) (Or.inr ⟨h1, rfl, rfl⟩)
theorem c79_copyOfRangeByte {Z a0} (hw : HW a0 Z) (hs : SF Z) {p1 : Addr} {x1 : Int32} (hx1 : 0 ≤ x1.toInt ∧ x1.toInt ≤ 127) {x2 : Int32} (hx2 : 0 ≤ x2.toInt ∧ x2.toInt ≤ 255) {l1 : List Int32} (hl_l1 : (l1.length : Int) = x2.toInt) (hr0 : x1.toInt < x2.toInt) {w_p1 : Bool} {ad_p1 : String} {F : List Ent} (mp1 : (p1, w_p1, ar ad_p1 .byte (lm l1)) ∈ F) : Con Z EL y41 y41b 5 y41r (rmm 1 1 255 48) [(vr p1), (vi 0), (vi x1)] (F) (fun v D' => (∃ a1 : Addr, Cd .gt x2 x1 ∧ (((cpl l1 (0 : Int32).toInt.toNat (List.replicate x1.toInt.toNat (0 : Int32)) (0 : Int32).toInt.toNat x1.toInt.toNat)).length : Int) = x1.toInt ∧ v = some (vr a1) ∧ (a1, true, ar "[B" .byte (lm (cpl l1 (0 : Int32).toInt.toNat (List.replicate x1.toInt.toNat (0 : Int32)) (0 : Int32).toInt.toNat x1.toInt.toNat))) :: F = D')) := by
  refine Con.of (ls := #[rv p1, iv 0, iv x1, uu, uu]) (by decide +kernel) rfl ?_
  refine W.iloadN d54_0 rfl ?_
  refine W.iloadN d54_1 rfl ?_
  refine W.callS (as := [(vi 0), (vi x1)]) 0 [] d54_2 (wq hw 296 rfl) (wq hw 297 rfl) (wq hw 167 rfl) (wq hw 298 rfl) (c57_checkLength hw hs (hx1 := hx1)) (by decide) pd_II_V rfl rfl rfl rfl (by decide) (fun v D' h => ?_)
  obtain ⟨rfl, rfl⟩ := h
  show W _ _ _ _ _ _ _ _ _ _ _ _ 5 _ []
  refine W.iloadN d54_5 rfl ?_
  refine W.iloadN d54_6 rfl ?_
  refine W.isubK x1 d54_7 (z_sub0 x1) ?_
  refine W.istoreN (ls' := #[rv p1, iv 0, iv x1, iv x1, uu]) d54_8 rfl ?_
  refine W.iloadN d54_9 rfl ?_
  have hl2 := len_rep (z := x1) (by have := q0; omega)
  refine W.newarrB 255 d54_10 (wq hw 8 rfl) (by have := q0; have := q255; omega) (by decide) (by decide) (fun a1 => ?_)
  show W _ _ _ _ _ _ _ _ _ _ _ _ 12 _ [(vr a1)]
  refine W.astore (ls' := #[rv p1, iv 0, iv x1, iv x1, rv a1]) d54_12 rfl rfl ?_
  refine W.aloadN d54_14 rfl rfl ?_
  refine W.iloadN d54_15 rfl ?_
  refine W.aload 4 d54_16 rfl rfl ?_
  refine W.iconst (0) d54_18 (by decide) ?_
  refine W.aloadN d54_19 rfl rfl ?_
  refine W.alenS (l := l1) (z := x2) d54_20 (mS mp1) hl_l1 ?_
  refine W.iloadN d54_21 rfl ?_
  refine W.isubK x2 d54_22 (z_sub0 x2) ?_
  refine W.iloadN d54_23 rfl ?_
  refine W.callS (as := [(vi x2), (vi x1)]) 4 [(vi 0), (vr a1), (vi 0), (vr p1)] d54_24 (wq hw 286 rfl) (wq hw 287 rfl) (wq hw 279 rfl) (wq hw 288 rfl) (c80_min hw hs (hx1 := hx2) (hx2 := hx1)) (by decide) pd_II_I rfl rfl rfl rfl (by decide) (fun v D' h => ?_)
  rcases h with ⟨h1, rfl, rfl⟩ | ⟨h2, rfl, rfl⟩
  ·
   have ih1 := t_gt h1
   show W _ _ _ _ _ _ _ _ _ _ _ _ 27 _ [(vi x1), (vi 0), (vr a1), (vi 0), (vr p1)]
   have hl3 := len_cplI (l1 := l1) (l2 := (List.replicate x1.toInt.toNat (0 : Int32))) (s := (0 : Int32)) (d := (0 : Int32)) (n := x1) hl_l1 hl2 (by have := q0; omega)
   refine W.cpyS (l1 := l1) (l2 := (List.replicate x1.toInt.toNat (0 : Int32))) (D' := (a1, true, ar "[B" .byte (lm (cpl l1 (0 : Int32).toInt.toNat (List.replicate x1.toInt.toNat (0 : Int32)) (0 : Int32).toInt.toNat x1.toInt.toNat))) :: F) 0 0 d54_27 (wq hw 289 rfl) (wq hw 292 rfl) (wq hw 290 rfl) (wq hw 291 rfl) (mS mp1) rfl rfl (by have := hl_l1; have := hl2; have := q0; omega) rfl rfl (by decide) rfl ?_
   refine W.aload 4 d54_30 rfl rfl ?_
   exact W.areturn d54_32 rfl rfl rfl (by decide) ⟨a1, h1, hl3, rfl, rfl⟩
  ·
   exact absurd h2 (Classical.not_not.mpr (y_gt (by omega)))
theorem c78_copyOfRange {Z a0} (hw : HW a0 Z) (hs : SF Z) {p1 : Addr} {x1 : Int32} (hx1 : 0 ≤ x1.toInt ∧ x1.toInt ≤ 127) {x2 : Int32} (hx2 : 0 ≤ x2.toInt ∧ x2.toInt ≤ 255) {l1 : List Int32} (hl_l1 : (l1.length : Int) = x2.toInt) (hr0 : x1.toInt ≤ x2.toInt) {w_p1 : Bool} {F : List Ent} (mp1 : (p1, w_p1, ar "[B" .byte (lm l1)) ∈ F) : Con Z EL y42 y42b 3 y42r (rmm 2 1 255 64) [(vr p1), (vi 0), (vi x1)] (F) (fun v D' => (∃ a1 : Addr, Cd .eq x1 x2 ∧ v = some (vr a1) ∧ (a1, true, ar "[B" .byte (lm l1)) :: F = D') ∨ (∃ a2 : Addr, ¬ Cd .eq x1 x2 ∧ Cd .gt x2 x1 ∧ (((cpl l1 (0 : Int32).toInt.toNat (List.replicate x1.toInt.toNat (0 : Int32)) (0 : Int32).toInt.toNat x1.toInt.toNat)).length : Int) = x1.toInt ∧ v = some (vr a2) ∧ (a2, true, ar "[B" .byte (lm (cpl l1 (0 : Int32).toInt.toNat (List.replicate x1.toInt.toNat (0 : Int32)) (0 : Int32).toInt.toNat x1.toInt.toNat))) :: F = D')) := by
  refine Con.of (ls := #[rv p1, iv 0, iv x1]) (by decide +kernel) rfl ?_
  refine W.iloadN d24_0 rfl ?_
  refine W.ifN d24_1 (n_ne (by decide)) ?_
  refine W.iloadN d24_4 rfl ?_
  refine W.aloadN d24_5 rfl rfl ?_
  refine W.alenS (l := l1) (z := x2) d24_6 mp1 hl_l1 ?_
  refine W.icmp 17 d24_7 (by decide) (fun h1 => ?_) (fun h1 => ?_)
  ·
   have ih1 := t_eq h1
   refine W.aloadN d24_17 rfl rfl ?_
   refine W.cloneS (l := l1) 0 255 d24_18 (wq hw 169 rfl) (wq hw 170 rfl) (wq hw 174 rfl) (wq hw 172 rfl) (wq hw 173 rfl) (wq hw 175 rfl) mp1 (by decide) (by have := hl_l1; have := q255; omega) rfl rfl (by decide) (fun a1 => ?_)
   show W _ _ _ _ _ _ _ _ _ _ _ _ 21 _ [(vr a1)]
   refine W.castY d24_21 (wq hw 176 rfl) (Hp.insA m0 (by decide)) ?_
   exact W.areturn d24_24 rfl rfl rfl (by decide) (Or.inl ⟨a1, h1, rfl, rfl⟩)
  ·
   have ih1 := f_eq h1
   refine W.aloadN d24_10 rfl rfl ?_
   refine W.iloadN d24_11 rfl ?_
   refine W.iloadN d24_12 rfl ?_
   refine W.callS (as := [(vr p1), (vi 0), (vi x1)]) 0 [] d24_13 (wq hw 293 rfl) (wq hw 294 rfl) (wq hw 167 rfl) (wq hw 295 rfl) (c79_copyOfRangeByte hw hs (hx1 := hx1) (hx2 := hx2) (hr0 := by omega) (l1 := l1) (hl_l1 := hl_l1) (mp1 := mp1)) (by decide) pd__BII__B rfl rfl rfl rfl (by decide) (fun v D' h => ?_)
   obtain ⟨a2, h2, hl3, rfl, rfl⟩ := h
   have ih2 := t_gt h2
   show W _ _ _ _ _ _ _ _ _ _ _ _ 16 _ [(vr a2)]
   exact W.areturn d24_16 rfl rfl rfl (by decide) (Or.inr ⟨a2, h1, h2, hl3, rfl, rfl⟩)
theorem c77_init {Z a0} (hw : HW a0 Z) (hs : SF Z) {p1 p2 p3 : Addr} {x1 : Int32} (hx1 : 0 ≤ x1.toInt ∧ x1.toInt ≤ 15) {x2 : Int32} (hx2 : 0 ≤ x2.toInt ∧ x2.toInt ≤ 255) {l1 : List Int32} (hl_l1 : (l1.length : Int) = x2.toInt) (hr0 : x1.toInt ≤ (x2 >>> ((1 : Int32) &&& 31)).toInt) {w_p2 : Bool} {w_p3 : Bool} {F : List Ent} (mp2 : (p2, w_p2, oStringBuilder (vr p3) (vi 1) (vi x1) (vi 0)) ∈ F) (mp3 : (p3, w_p3, ar "[B" .byte (lm l1)) ∈ F) : Con Z EL y43 y43b 5 y43r (rmm 3 1 255 79) [(vr p1), (vr p2), .null] ((p1, true, oString .null (vi 0)) :: F) (fun v D' => (∃ a1 : Addr, Cd .eq (x1 <<< ((1 : Int32) &&& 31)) x2 ∧ v = none ∧ (a1, true, ar "[B" .byte (lm l1)) :: (p1, true, oString (vr a1) (vi 1)) :: F = D') ∨ (∃ a2 : Addr, ¬ Cd .eq (x1 <<< ((1 : Int32) &&& 31)) x2 ∧ Cd .gt x2 (x1 <<< ((1 : Int32) &&& 31)) ∧ (((cpl l1 (0 : Int32).toInt.toNat (List.replicate (x1 <<< ((1 : Int32) &&& 31)).toInt.toNat (0 : Int32)) (0 : Int32).toInt.toNat (x1 <<< ((1 : Int32) &&& 31)).toInt.toNat)).length : Int) = (x1 <<< ((1 : Int32) &&& 31)).toInt ∧ v = none ∧ (a2, true, ar "[B" .byte (lm (cpl l1 (0 : Int32).toInt.toNat (List.replicate (x1 <<< ((1 : Int32) &&& 31)).toInt.toNat (0 : Int32)) (0 : Int32).toInt.toNat (x1 <<< ((1 : Int32) &&& 31)).toInt.toNat))) :: (p1, true, oString (vr a2) (vi 1)) :: F = D')) := by
  refine Con.of (ls := #[rv p1, rv p2, .val .null, uu, uu]) (by decide +kernel) rfl ?_
  refine W.aloadN d20_0 rfl rfl ?_
  refine W.initO 0 d20_1 (wq hw 150 rfl) (wq hw 33 rfl) (wq hw 34 rfl) rfl rfl (by decide) ?_
  refine W.aloadN d20_4 rfl rfl ?_
  refine W.callV (as := []) 0 [] d20_5 (wq hw 151 rfl) (wq hw 152 rfl) (wq hw 154 rfl) (wq hw 154 rfl) (wq hw 153 rfl) (wq hw 96 rfl) (wq hw 155 rfl) (Hp.exa (mS mp2)) (c43_getValue hw hs (mp1 := (mS mp2))) (by decide) pd___B rfl rfl rfl rfl (by decide) (fun v D' h => ?_)
  obtain ⟨rfl, rfl⟩ := h
  show W _ _ _ _ _ _ _ _ _ _ _ _ 8 _ [(vr p3)]
  refine W.astoreN (ls' := #[rv p1, rv p2, .val .null, rv p3, uu]) d20_8 rfl rfl ?_
  refine W.aloadN d20_9 rfl rfl ?_
  refine W.callVN (as := []) 0 [] d20_10 (wq hw 156 rfl) (wq hw 157 rfl) (by rfl) (wq hw 123 rfl) (wq hw 125 rfl) (wq hw 159 rfl) (wq hw 160 rfl) (wq hw 88 rfl) (wq hw 161 rfl) (Hp.exa (mS mp2)) (c44_length hw hs (hx1 := hx1) (mp1 := (mS mp2))) (by decide) pd__I rfl rfl rfl rfl (by decide) (fun v D' h => ?_)
  obtain ⟨rfl, rfl⟩ := h
  show W _ _ _ _ _ _ _ _ _ _ _ _ 13 _ [(vi x1)]
  refine W.istore (ls' := #[rv p1, rv p2, .val .null, rv p3, iv x1]) d20_13 rfl ?_
  refine W.aloadN d20_15 rfl rfl ?_
  refine W.callV (as := []) 0 [] d20_16 (wq hw 164 rfl) (wq hw 133 rfl) (wq hw 135 rfl) (wq hw 135 rfl) (wq hw 134 rfl) (wq hw 96 rfl) (wq hw 136 rfl) (Hp.exa (mS mp2)) (c54_isLatin1 hw hs (mp1 := (mS mp2))) (by decide) pd__Z rfl rfl rfl rfl (by decide) (fun v D' h => ?_)
  obtain ⟨rfl, rfl⟩ := h
  show W _ _ _ _ _ _ _ _ _ _ _ _ 19 _ [(vi 0)]
  refine W.ifY 41 d20_19 (y_eq (by decide)) (by decide) ?_
  refine W.gets d20_41 (wq hw 79 rfl) Via.refl hs.1 ?_
  refine W.ifN d20_44 (n_eq (by have := hs.2.1; have := q0; omega)) ?_
  refine W.aloadN d20_47 rfl rfl ?_
  refine W.getf d20_48 (wq hw 237 rfl) Via.refl (mS mp2) m3 ?_
  refine W.ifY 79 d20_51 (y_eq (by decide)) (by decide) ?_
  refine W.aloadN d20_79 rfl rfl ?_
  refine W.iconst (1) d20_80 (by decide) ?_
  refine W.putf (D' := (p1, true, oString .null (vi 1)) :: F) 0 1 d20_81 (wq hw 80 rfl) Via.refl rfl rfl (Or.inr ⟨(wq hw 10 rfl), rfl, rfl⟩) (wq hw 7 rfl) pfB (nw_byte (by decide)) (ft_byte (by decide)) rfl ?_
  refine W.aloadN d20_84 rfl rfl ?_
  refine W.aloadN d20_85 rfl rfl ?_
  refine W.iconst (0) d20_86 (by decide) ?_
  refine W.iload d20_87 rfl ?_
  refine W.iconst (1) d20_89 (by decide) ?_
  refine W.ishl d20_90 ?_
  refine W.callS (as := [(vr p3), (vi 0), (vi (x1 <<< ((1 : Int32) &&& 31)))]) 1 [(vr p1)] d20_91 (wq hw 165 rfl) (wq hw 166 rfl) (wq hw 167 rfl) (wq hw 168 rfl) (c78_copyOfRange hw hs (hx1 := (by have := q1; have := ashl_1 x1; have := ashr_1 x2; omega)) (hx2 := hx2) (hr0 := by have := q1; have := ashl_1 x1; have := ashr_1 x2; omega) (l1 := l1) (hl_l1 := hl_l1) (mp1 := (mS mp3))) (by decide) pd__BII__B rfl rfl rfl rfl (by decide) (fun v D' h => ?_)
  rcases h with ⟨a1, h1, rfl, rfl⟩ | ⟨a2, h2, h3, hl3, rfl, rfl⟩
  ·
   have ih1 := t_eq h1
   show W _ _ _ _ _ _ _ _ _ _ _ _ 94 _ [(vr a1), (vr p1)]
   refine W.putf (D' := (a1, true, ar "[B" .byte (lm l1)) :: (p1, true, oString (vr a1) (vi 1)) :: F) 1 0 d20_94 (wq hw 73 rfl) Via.refl rfl rfl (Or.inr ⟨(wq hw 9 rfl), rfl, rfl⟩) (wq hw 7 rfl) pf_B rfl rfl rfl ?_
   exact W.return_ d20_97 rfl (by decide) (Or.inl ⟨a1, h1, rfl, rfl⟩)
  ·
   have ih2 := f_eq h2
   have ih3 := t_gt h3
   show W _ _ _ _ _ _ _ _ _ _ _ _ 94 _ [(vr a2), (vr p1)]
   refine W.putf (D' := (a2, true, ar "[B" .byte (lm (cpl l1 (0 : Int32).toInt.toNat (List.replicate (x1 <<< ((1 : Int32) &&& 31)).toInt.toNat (0 : Int32)) (0 : Int32).toInt.toNat (x1 <<< ((1 : Int32) &&& 31)).toInt.toNat))) :: (p1, true, oString (vr a2) (vi 1)) :: F) 1 0 d20_94 (wq hw 73 rfl) Via.refl rfl rfl (Or.inr ⟨(wq hw 9 rfl), rfl, rfl⟩) (wq hw 7 rfl) pf_B rfl rfl rfl ?_
   exact W.return_ d20_97 rfl (by decide) (Or.inr ⟨a2, h2, h3, hl3, rfl, rfl⟩)
theorem c76_init {Z a0} (hw : HW a0 Z) (hs : SF Z) {p1 p2 p3 : Addr} {x1 : Int32} (hx1 : 0 ≤ x1.toInt ∧ x1.toInt ≤ 15) {x2 : Int32} (hx2 : 0 ≤ x2.toInt ∧ x2.toInt ≤ 255) {l1 : List Int32} (hl_l1 : (l1.length : Int) = x2.toInt) (hr0 : x1.toInt ≤ (x2 >>> ((1 : Int32) &&& 31)).toInt) {w_p2 : Bool} {w_p3 : Bool} {F : List Ent} (mp2 : (p2, w_p2, oStringBuilder (vr p3) (vi 1) (vi x1) (vi 0)) ∈ F) (mp3 : (p3, w_p3, ar "[B" .byte (lm l1)) ∈ F) : Con Z EL y44 y44b 2 y44r (rmm 4 1 255 95) [(vr p1), (vr p2)] ((p1, true, oString .null (vi 0)) :: F) (fun v D' => (∃ a1 : Addr, Cd .eq (x1 <<< ((1 : Int32) &&& 31)) x2 ∧ v = none ∧ (a1, true, ar "[B" .byte (lm l1)) :: (p1, true, oString (vr a1) (vi 1)) :: F = D') ∨ (∃ a2 : Addr, ¬ Cd .eq (x1 <<< ((1 : Int32) &&& 31)) x2 ∧ Cd .gt x2 (x1 <<< ((1 : Int32) &&& 31)) ∧ (((cpl l1 (0 : Int32).toInt.toNat (List.replicate (x1 <<< ((1 : Int32) &&& 31)).toInt.toNat (0 : Int32)) (0 : Int32).toInt.toNat (x1 <<< ((1 : Int32) &&& 31)).toInt.toNat)).length : Int) = (x1 <<< ((1 : Int32) &&& 31)).toInt ∧ v = none ∧ (a2, true, ar "[B" .byte (lm (cpl l1 (0 : Int32).toInt.toNat (List.replicate (x1 <<< ((1 : Int32) &&& 31)).toInt.toNat (0 : Int32)) (0 : Int32).toInt.toNat (x1 <<< ((1 : Int32) &&& 31)).toInt.toNat))) :: (p1, true, oString (vr a2) (vi 1)) :: F = D')) := by
  refine Con.of (ls := #[rv p1, rv p2]) (by decide +kernel) rfl ?_
  refine W.aloadN d19_0 rfl rfl ?_
  refine W.aloadN d19_1 rfl rfl ?_
  refine W.aconstNull d19_2 ?_
  refine W.callI (as := [(vr p2), .null]) 0 [] d19_3 rfl (wq hw 147 rfl) (wq hw 148 rfl) (wq hw 6 rfl) (wq hw 149 rfl) (c77_init hw hs (hx1 := hx1) (hx2 := hx2) (hr0 := by have := q1; have := ashr_1 x2; omega) (l1 := l1) (hl_l1 := hl_l1) (mp2 := mp2) (mp3 := mp3)) (by decide) pd_Ljava_lang_AbstractStringBuilder_Ljava_lang_Void__V rfl rfl rfl rfl (by decide) (fun v D' h => ?_)
  rcases h with ⟨a1, h1, rfl, rfl⟩ | ⟨a2, h2, h3, hl3, rfl, rfl⟩
  ·
   have ih1 := t_eq h1
   show W _ _ _ _ _ _ _ _ _ _ _ _ 6 _ []
   exact W.return_ d19_6 rfl (by decide) (Or.inl ⟨a1, h1, rfl, rfl⟩)
  ·
   have ih2 := f_eq h2
   have ih3 := t_gt h3
   show W _ _ _ _ _ _ _ _ _ _ _ _ 6 _ []
   exact W.return_ d19_6 rfl (by decide) (Or.inr ⟨a2, h2, h3, hl3, rfl, rfl⟩)
theorem c75_toString {Z a0} (hw : HW a0 Z) (hs : SF Z) {p1 p2 : Addr} {x1 : Int32} (hx1 : 0 ≤ x1.toInt ∧ x1.toInt ≤ 15) {x2 : Int32} (hx2 : 0 ≤ x2.toInt ∧ x2.toInt ≤ 255) {l1 : List Int32} (hl_l1 : (l1.length : Int) = x2.toInt) (hr0 : x1.toInt ≤ (x2 >>> ((1 : Int32) &&& 31)).toInt) {w_p1 : Bool} {w_p2 : Bool} {F : List Ent} (mp1 : (p1, w_p1, oStringBuilder (vr p2) (vi 1) (vi x1) (vi 0)) ∈ F) (mp2 : (p2, w_p2, ar "[B" .byte (lm l1)) ∈ F) : Con Z EL y45 y45b 1 y45r (rmm 5 2 259 109) [(vr p1)] (F) (fun v D' => (∃ a1 a2 : Addr, Cd .eq (x1 <<< ((1 : Int32) &&& 31)) x2 ∧ v = some (vr a1) ∧ (a2, true, ar "[B" .byte (lm l1)) :: (a1, true, oString (vr a2) (vi 1)) :: F = D') ∨ (∃ a1 a3 : Addr, ¬ Cd .eq (x1 <<< ((1 : Int32) &&& 31)) x2 ∧ Cd .gt x2 (x1 <<< ((1 : Int32) &&& 31)) ∧ (((cpl l1 (0 : Int32).toInt.toNat (List.replicate (x1 <<< ((1 : Int32) &&& 31)).toInt.toNat (0 : Int32)) (0 : Int32).toInt.toNat (x1 <<< ((1 : Int32) &&& 31)).toInt.toNat)).length : Int) = (x1 <<< ((1 : Int32) &&& 31)).toInt ∧ v = some (vr a1) ∧ (a3, true, ar "[B" .byte (lm (cpl l1 (0 : Int32).toInt.toNat (List.replicate (x1 <<< ((1 : Int32) &&& 31)).toInt.toNat (0 : Int32)) (0 : Int32).toInt.toNat (x1 <<< ((1 : Int32) &&& 31)).toInt.toNat))) :: (a1, true, oString (vr a3) (vi 1)) :: F = D')) := by
  refine Con.of (ls := #[rv p1]) (by decide +kernel) rfl ?_
  refine W.new d18_0 (wq hw 142 rfl) (wq hw 7 rfl) (wq hw 6 rfl) (laString hw) (by decide) (by decide) (fun a1 => ?_)
  show W _ _ _ _ _ _ _ _ _ _ _ _ 3 _ [(vr a1)]
  refine W.dup d18_3 rfl ?_
  refine W.aloadN d18_4 rfl rfl ?_
  refine W.callI (as := [(vr p1)]) 1 [(vr a1)] d18_5 rfl (wq hw 143 rfl) (wq hw 144 rfl) (wq hw 6 rfl) (wq hw 146 rfl) (c76_init hw hs (hx1 := hx1) (hx2 := hx2) (hr0 := by have := q1; have := ashr_1 x2; omega) (l1 := l1) (hl_l1 := hl_l1) (mp2 := mp1) (mp3 := mp2)) (by decide) pd_Ljava_lang_StringBuilder__V rfl rfl rfl rfl (by decide) (fun v D' h => ?_)
  rcases h with ⟨a2, h1, rfl, rfl⟩ | ⟨a3, h2, h3, hl4, rfl, rfl⟩
  ·
   have ih1 := t_eq h1
   show W _ _ _ _ _ _ _ _ _ _ _ _ 8 _ [(vr a1)]
   exact W.areturn d18_8 rfl rfl rfl (by decide) (Or.inl ⟨a1, a2, h1, rfl, rfl⟩)
  ·
   have ih2 := f_eq h2
   have ih3 := t_gt h3
   show W _ _ _ _ _ _ _ _ _ _ _ _ 8 _ [(vr a1)]
   exact W.areturn d18_8 rfl rfl rfl (by decide) (Or.inr ⟨a1, a3, h2, h3, hl4, rfl, rfl⟩)
theorem c74_text {Z a0} (hw : HW a0 Z) (hs : SF Z) {p1 p7 p11 : Addr} {x1 : Int32} (hx1 : 0 ≤ x1.toInt ∧ x1.toInt ≤ 15) {x2 : Int32} (hx2 : 0 ≤ x2.toInt ∧ x2.toInt ≤ 255) {l1 : List Int32} (hl_l1 : (l1.length : Int) = x2.toInt) (hr0 : x1.toInt ≤ (x2 >>> ((1 : Int32) &&& 31)).toInt) {f_p1_0 f_p1_1 f_p1_2 f_p1_3 f_p1_4 f_p1_5 f_p1_6 : Value} {w_p1 : Bool} {w_p7 : Bool} {w_p11 : Bool} {F : List Ent} (mp1 : (p1, w_p1, oXmlElement f_p1_0 f_p1_1 f_p1_2 f_p1_3 f_p1_4 f_p1_5 f_p1_6 (vr p7)) ∈ F) (mp7 : (p7, w_p7, oStringBuilder (vr p11) (vi 1) (vi x1) (vi 0)) ∈ F) (mp11 : (p11, w_p11, ar "[B" .byte (lm l1)) ∈ F) : Con Z EL y5 y5b 1 y5r (rmm 6 2 259 121) [(vr p1)] (F) (fun v D' => (∃ a1 a2 : Addr, Cd .eq (x1 <<< ((1 : Int32) &&& 31)) x2 ∧ v = some (vr a1) ∧ (a2, true, ar "[B" .byte (lm l1)) :: (a1, true, oString (vr a2) (vi 1)) :: F = D') ∨ (∃ a3 a4 : Addr, ¬ Cd .eq (x1 <<< ((1 : Int32) &&& 31)) x2 ∧ Cd .gt x2 (x1 <<< ((1 : Int32) &&& 31)) ∧ (((cpl l1 (0 : Int32).toInt.toNat (List.replicate (x1 <<< ((1 : Int32) &&& 31)).toInt.toNat (0 : Int32)) (0 : Int32).toInt.toNat (x1 <<< ((1 : Int32) &&& 31)).toInt.toNat)).length : Int) = (x1 <<< ((1 : Int32) &&& 31)).toInt ∧ v = some (vr a3) ∧ (a4, true, ar "[B" .byte (lm (cpl l1 (0 : Int32).toInt.toNat (List.replicate (x1 <<< ((1 : Int32) &&& 31)).toInt.toNat (0 : Int32)) (0 : Int32).toInt.toNat (x1 <<< ((1 : Int32) &&& 31)).toInt.toNat))) :: (a3, true, oString (vr a4) (vi 1)) :: F = D')) := by
  refine Con.of (ls := #[rv p1]) (by decide +kernel) rfl ?_
  refine W.aloadN d6_0 rfl rfl ?_
  refine W.getf d6_1 (wq hw 65 rfl) Via.refl mp1 m7 ?_
  refine W.ifnonnullY 12 d6_4 (by decide) ?_
  refine W.aloadN d6_12 rfl rfl ?_
  refine W.getf d6_13 (wq hw 65 rfl) Via.refl mp1 m7 ?_
  refine W.callV (as := []) 0 [] d6_16 (wq hw 137 rfl) (wq hw 138 rfl) (wq hw 140 rfl) (wq hw 140 rfl) (wq hw 139 rfl) (wq hw 88 rfl) (wq hw 141 rfl) (Hp.exa mp7) (c75_toString hw hs (hx1 := hx1) (hx2 := hx2) (hr0 := by have := q1; have := ashr_1 x2; omega) (l1 := l1) (hl_l1 := hl_l1) (mp1 := mp7) (mp2 := mp11)) (by decide) pd__Ljava_lang_String_ rfl rfl rfl rfl (by decide) (fun v D' h => ?_)
  rcases h with ⟨a1, a2, h1, rfl, rfl⟩ | ⟨a3, a4, h2, h3, hl5, rfl, rfl⟩
  ·
   have ih1 := t_eq h1
   show W _ _ _ _ _ _ _ _ _ _ _ _ 19 _ [(vr a1)]
   exact W.areturn d6_19 rfl rfl rfl (by decide) (Or.inl ⟨a1, a2, h1, rfl, rfl⟩)
  ·
   have ih2 := f_eq h2
   have ih3 := t_gt h3
   show W _ _ _ _ _ _ _ _ _ _ _ _ 19 _ [(vr a3)]
   exact W.areturn d6_19 rfl rfl rfl (by decide) (Or.inr ⟨a3, a4, h2, h3, hl5, rfl, rfl⟩)
theorem q5 : (5 : Int32).toInt = 5 := by decide
theorem c82_coder {Z a0} (hw : HW a0 Z) (hs : SF Z) {p1 : Addr} {f_p1_0 : Value} {w_p1 : Bool} {F : List Ent} (mp1 : (p1, w_p1, oString f_p1_0 (vi 1)) ∈ F) : Con Z EL y6 y6b 1 y6r (rmm 0 0 0 0) [(vr p1)] (F) (fun v D' => (v = some (vi 1) ∧ F = D')) := by
  refine Con.of (ls := #[rv p1]) (by decide +kernel) rfl ?_
  refine W.gets d8_0 (wq hw 79 rfl) Via.refl hs.1 ?_
  refine W.ifN d8_3 (n_eq (by have := hs.2.1; have := q0; omega)) ?_
  refine W.aloadN d8_6 rfl rfl ?_
  refine W.getf d8_7 (wq hw 80 rfl) Via.refl mp1 m1 ?_
  refine W.goto 14 d8_10 (by decide) ?_
  exact W.ireturn d8_14 rfl (Or.inr (Or.inr (Or.inl rfl))) (nw_byte (by decide)) (by decide) ⟨rfl, rfl⟩
theorem c81_length {Z a0} (hw : HW a0 Z) (hs : SF Z) {p1 p2 : Addr} {x1 : Int32} (hx1 : 0 ≤ x1.toInt ∧ x1.toInt ≤ 15) {l1 : List Int32} (hl_l1 : (l1.length : Int) = x1.toInt) {w_p1 : Bool} {w_p2 : Bool} {ad_p2 : String} {F : List Ent} (mp1 : (p1, w_p1, oString (vr p2) (vi 1)) ∈ F) (mp2 : (p2, w_p2, ar ad_p2 .byte (lm l1)) ∈ F) : Con Z EL y7 y7b 1 y7r (rmm 1 0 0 13) [(vr p1)] (F) (fun v D' => (v = some (vi (x1 >>> ((1 : Int32) &&& 31))) ∧ F = D')) := by
  refine Con.of (ls := #[rv p1]) (by decide +kernel) rfl ?_
  refine W.aloadN d7_0 rfl rfl ?_
  refine W.getf d7_1 (wq hw 73 rfl) Via.refl mp1 m0 ?_
  refine W.alenS (l := l1) (z := x1) d7_4 mp2 hl_l1 ?_
  refine W.aloadN d7_5 rfl rfl ?_
  refine W.callV (as := []) 1 [(vi x1)] d7_6 (wq hw 74 rfl) (wq hw 75 rfl) (wq hw 77 rfl) (wq hw 77 rfl) (wq hw 76 rfl) (wq hw 6 rfl) (wq hw 78 rfl) (Hp.exa mp1) (c82_coder hw hs (mp1 := mp1)) (by decide) pd__B rfl rfl rfl rfl (by decide) (fun v D' h => ?_)
  obtain ⟨rfl, rfl⟩ := h
  show W _ _ _ _ _ _ _ _ _ _ _ _ 9 _ [(vi 1), (vi x1)]
  refine W.ishr d7_9 ?_
  exact W.ireturn d7_10 rfl (Or.inl rfl) rfl (by decide) ⟨rfl, rfl⟩
theorem d42_17 : decode jdk_42_method_154_code 17 = .ok (.iconst 0, 1) := by decide +kernel
theorem c85_isLatin1 {Z a0} (hw : HW a0 Z) (hs : SF Z) {p1 : Addr} {f_p1_0 : Value} {w_p1 : Bool} {F : List Ent} (mp1 : (p1, w_p1, oString f_p1_0 (vi 1)) ∈ F) : Con Z EL y46 y46b 1 y46r (rmm 0 0 0 0) [(vr p1)] (F) (fun v D' => (v = some (vi 0) ∧ F = D')) := by
  refine Con.of (ls := #[rv p1]) (by decide +kernel) rfl ?_
  refine W.gets d42_0 (wq hw 79 rfl) Via.refl hs.1 ?_
  refine W.ifN d42_3 (n_eq (by have := hs.2.1; have := q0; omega)) ?_
  refine W.aloadN d42_6 rfl rfl ?_
  refine W.getf d42_7 (wq hw 80 rfl) Via.refl mp1 m1 ?_
  refine W.ifY 17 d42_10 (y_ne (by decide)) (by decide) ?_
  refine W.iconst (0) d42_17 (by decide) ?_
  exact W.ireturn d42_18 rfl (Or.inr (Or.inl rfl)) (nw_bool (by decide)) (by decide) ⟨rfl, rfl⟩
theorem d41_16 : decode jdk_42_method_56_code 16 = .ok (.aload_n 0, 1) := by decide +kernel
theorem d41_17 : decode jdk_42_method_56_code 17 = .ok (.getfield 9, 3) := by decide +kernel
theorem d41_20 : decode jdk_42_method_56_code 20 = .ok (.iload_n 1, 1) := by decide +kernel
theorem d41_21 : decode jdk_42_method_56_code 21 = .ok (.invokestatic 498, 3) := by decide +kernel
theorem d43_0 : decode jdk_52_method_83_code 0 = .ok (.iload_n 1, 1) := by decide +kernel
theorem d43_1 : decode jdk_52_method_83_code 1 = .ok (.aload_n 0, 1) := by decide +kernel
theorem d43_2 : decode jdk_52_method_83_code 2 = .ok (.invokestatic 67, 3) := by decide +kernel
theorem d44_0 : decode jdk_52_method_91_code 0 = .ok (.iload_n 0, 1) := by decide +kernel
theorem d44_1 : decode jdk_52_method_91_code 1 = .ok (.aload_n 1, 1) := by decide +kernel
theorem d44_2 : decode jdk_52_method_91_code 2 = .ok (.invokestatic 48, 3) := by decide +kernel
theorem d44_5 : decode jdk_52_method_91_code 5 = .ok (.invokestatic 414, 3) := by decide +kernel
theorem d44_8 : decode jdk_52_method_91_code 8 = .ok (.return_, 1) := by decide +kernel
abbrev y52 : MethodName := ⟨"java/lang/StringUTF16", "checkIndex", "(I[B)V"⟩
abbrev y52b : ByteArray := jdk_52_method_91_code
abbrev y52r : Option Jvm.ClassFile.FieldType := (Option.none : Option Jvm.ClassFile.FieldType)
theorem c87_checkIndex {Z a0} (hw : HW a0 Z) (hs : SF Z) {p1 : Addr} {x1 : Int32} (hx1 : 0 ≤ x1.toInt ∧ x1.toInt ≤ 15) {x2 : Int32} (hx2 : 0 ≤ x2.toInt ∧ x2.toInt ≤ 15) {l1 : List Int32} (hl_l1 : (l1.length : Int) = x2.toInt) (hr0 : x1.toInt < (x2 >>> ((1 : Int32) &&& 31)).toInt) {w_p1 : Bool} {ad_p1 : String} {F : List Ent} (mp1 : (p1, w_p1, ar ad_p1 .byte (lm l1)) ∈ F) : Con Z EL y52 y52b 2 y52r (rmm 2 0 0 27) [(vi x1), (vr p1)] (F) (fun v D' => (v = none ∧ F = D')) := by
  refine Con.of (ls := #[iv x1, rv p1]) (by decide +kernel) rfl ?_
  refine W.iloadN d44_0 rfl ?_
  refine W.aloadN d44_1 rfl rfl ?_
  refine W.callS (as := [(vr p1)]) 1 [(vi x1)] d44_2 (wq hw 208 rfl) (wq hw 209 rfl) (wq hw 193 rfl) (wq hw 210 rfl) (c29_length hw hs (hx1 := (by have := q1; have := ashr_1 x2; omega)) (l1 := l1) (hl_l1 := hl_l1) (mp1 := mp1)) (by decide) pd__B_I rfl rfl rfl rfl (by decide) (fun v D' h => ?_)
  obtain ⟨rfl, rfl⟩ := h
  show W _ _ _ _ _ _ _ _ _ _ _ _ 5 _ [(vi (x2 >>> ((1 : Int32) &&& 31))), (vi x1)]
  refine W.callS (as := [(vi x1), (vi (x2 >>> ((1 : Int32) &&& 31)))]) 0 [] d44_5 (wq hw 255 rfl) (wq hw 256 rfl) (wq hw 6 rfl) (wq hw 257 rfl) (c64_checkIndex hw hs (hx1 := hx1) (hx2 := (by have := q1; have := ashr_1 x2; omega)) (hr0 := by have := q0; have := q1; have := ashr_1 x2; omega) (hr1 := by have := q1; have := ashr_1 x2; omega)) (by decide) pd_II_V rfl rfl rfl rfl (by decide) (fun v D' h => ?_)
  obtain ⟨rfl, rfl⟩ := h
  show W _ _ _ _ _ _ _ _ _ _ _ _ 8 _ []
  exact W.return_ d44_8 rfl (by decide) ⟨rfl, rfl⟩
theorem pd_I_B_V : parseMethodDescriptor "(I[B)V" = some ⟨[.int, (.array .byte)], none⟩ := by decide +kernel
theorem d43_5 : decode jdk_52_method_83_code 5 = .ok (.aload_n 0, 1) := by decide +kernel
theorem d43_6 : decode jdk_52_method_83_code 6 = .ok (.iload_n 1, 1) := by decide +kernel
theorem d43_7 : decode jdk_52_method_83_code 7 = .ok (.invokestatic 71, 3) := by decide +kernel
theorem d47_0 : decode jdk_52_method_5_code 0 = .ok (.getstatic 44, 3) := by decide +kernel
theorem d47_3 : decode jdk_52_method_5_code 3 = .ok (.ifCond .ne 25, 3) := by decide +kernel
theorem d47_28 : decode jdk_52_method_5_code 28 = .ok (.iload_n 1, 1) := by decide +kernel
theorem d47_29 : decode jdk_52_method_5_code 29 = .ok (.iconst 1, 1) := by decide +kernel
theorem d47_30 : decode jdk_52_method_5_code 30 = .ok (.ishl, 1) := by decide +kernel
theorem d47_31 : decode jdk_52_method_5_code 31 = .ok (.istore_n 1, 1) := by decide +kernel
theorem d47_32 : decode jdk_52_method_5_code 32 = .ok (.aload_n 0, 1) := by decide +kernel
theorem d47_33 : decode jdk_52_method_5_code 33 = .ok (.iload_n 1, 1) := by decide +kernel
theorem d47_34 : decode jdk_52_method_5_code 34 = .ok (.iinc 1 1, 3) := by decide +kernel
theorem d47_37 : decode jdk_52_method_5_code 37 = .ok (.baload, 1) := by decide +kernel
theorem d47_38 : decode jdk_52_method_5_code 38 = .ok (.sipush 255, 3) := by decide +kernel
theorem d47_41 : decode jdk_52_method_5_code 41 = .ok (.iand, 1) := by decide +kernel
theorem d47_42 : decode jdk_52_method_5_code 42 = .ok (.getstatic 59, 3) := by decide +kernel
theorem d47_45 : decode jdk_52_method_5_code 45 = .ok (.ishl, 1) := by decide +kernel
theorem d47_46 : decode jdk_52_method_5_code 46 = .ok (.aload_n 0, 1) := by decide +kernel
theorem d47_47 : decode jdk_52_method_5_code 47 = .ok (.iload_n 1, 1) := by decide +kernel
theorem d47_48 : decode jdk_52_method_5_code 48 = .ok (.baload, 1) := by decide +kernel
theorem d47_49 : decode jdk_52_method_5_code 49 = .ok (.sipush 255, 3) := by decide +kernel
theorem d47_52 : decode jdk_52_method_5_code 52 = .ok (.iand, 1) := by decide +kernel
theorem d47_53 : decode jdk_52_method_5_code 53 = .ok (.getstatic 63, 3) := by decide +kernel
theorem d47_56 : decode jdk_52_method_5_code 56 = .ok (.ishl, 1) := by decide +kernel
theorem d47_57 : decode jdk_52_method_5_code 57 = .ok (.ior, 1) := by decide +kernel
theorem d47_58 : decode jdk_52_method_5_code 58 = .ok (.i2c, 1) := by decide +kernel
theorem ashl_8 (x : Int32) : ((x <<< ((8 : Int32) &&& 31)).toInt - x.toInt * 256) % 4294967296 = 0 ∧ -2147483648 ≤ (x <<< ((8 : Int32) &&& 31)).toInt ∧ (x <<< ((8 : Int32) &&& 31)).toInt < 2147483648 := a_shl x 8 8 256 (by decide) (by decide)
theorem d47_59 : decode jdk_52_method_5_code 59 = .ok (.ireturn, 1) := by decide +kernel
abbrev y53 : MethodName := ⟨"java/lang/StringUTF16", "getChar", "([BI)C"⟩
abbrev y53b : ByteArray := jdk_52_method_5_code
abbrev y53r : Option Jvm.ClassFile.FieldType := (Option.some Jvm.ClassFile.FieldType.char)
theorem c88_getChar {Z a0} (hw : HW a0 Z) (hs : SF Z) {p1 : Addr} {x1 : Int32} (hx1 : 0 ≤ x1.toInt ∧ x1.toInt ≤ 15) {x2 : Int32} (hx2 : 0 ≤ x2.toInt ∧ x2.toInt ≤ 15) {l1 : List Int32} (hl_l1 : (l1.length : Int) = x2.toInt) (hr0 : x1.toInt < (x2 >>> ((1 : Int32) &&& 31)).toInt) {w_p1 : Bool} {ad_p1 : String} {F : List Ent} (mp1 : (p1, w_p1, ar ad_p1 .byte (lm l1)) ∈ F) : Con Z EL y53 y53b 2 y53r (rmm 0 0 0 0) [(vr p1), (vi x1)] (F) (fun v D' => (v = some (vi (((sel (x1 <<< ((1 : Int32) &&& 31)) l1) &&& (255 : Int32)) ||| (((sel ((x1 <<< ((1 : Int32) &&& 31)) + (1 : Int32)) l1) &&& (255 : Int32)) <<< ((8 : Int32) &&& 31)))) ∧ F = D')) := by
  refine Con.of (ls := #[rv p1, iv x1]) (by decide +kernel) rfl ?_
  refine W.gets d47_0 (wq hw 221 rfl) Via.refl hs.2.2.2.2.2.2.1 ?_
  refine W.ifY 28 d47_3 (y_ne (by decide)) (by decide) ?_
  refine W.iloadN d47_28 rfl ?_
  refine W.iconst (1) d47_29 (by decide) ?_
  refine W.ishl d47_30 ?_
  refine W.istoreN (ls' := #[rv p1, iv (x1 <<< ((1 : Int32) &&& 31))]) d47_31 rfl ?_
  refine W.aloadN d47_32 rfl rfl ?_
  refine W.iloadN d47_33 rfl ?_
  refine W.iincK (ls' := #[rv p1, iv ((x1 <<< ((1 : Int32) &&& 31)) + (1 : Int32))]) (1) ((x1 <<< ((1 : Int32) &&& 31)) + (1 : Int32)) d47_34 (by decide) rfl rfl rfl ?_
  refine W.baloadS (j' := (x1 <<< ((1 : Int32) &&& 31))) (l := l1) d47_37 mp1 rfl (by have := hl_l1; have := q1; have := ashl_1 x1; have := q0; have := ashr_1 x2; omega) ?_
  refine W.sipush (255) d47_38 (by decide) ?_
  refine W.iand d47_41 ?_
  refine W.gets d47_42 (wq hw 222 rfl) Via.refl hs.2.2.2.2.2.2.2.1 ?_
  refine W.ishlK ((sel (x1 <<< ((1 : Int32) &&& 31)) l1) &&& (255 : Int32)) d47_45 (z_shl0 ((sel (x1 <<< ((1 : Int32) &&& 31)) l1) &&& (255 : Int32))) ?_
  refine W.aloadN d47_46 rfl rfl ?_
  refine W.iloadN d47_47 rfl ?_
  refine W.baloadS (j' := ((x1 <<< ((1 : Int32) &&& 31)) + (1 : Int32))) (l := l1) d47_48 mp1 rfl (by have := hl_l1; have := q1; have := ashl_1 x1; have := a_add (x1 <<< ((1 : Int32) &&& 31)) (1 : Int32); have := q0; have := ashr_1 x2; omega) ?_
  refine W.sipush (255) d47_49 (by decide) ?_
  refine W.iand d47_52 ?_
  refine W.gets d47_53 (wq hw 223 rfl) Via.refl hs.2.2.2.2.2.2.2.2.1 ?_
  refine W.ishl d47_56 ?_
  refine W.ior d47_57 ?_
  refine W.i2cK (((sel (x1 <<< ((1 : Int32) &&& 31)) l1) &&& (255 : Int32)) ||| (((sel ((x1 <<< ((1 : Int32) &&& 31)) + (1 : Int32)) l1) &&& (255 : Int32)) <<< ((8 : Int32) &&& 31))) d47_58 (z_i2c (by have := q1; have := ashl_1 x1; have := rng32 (sel (x1 <<< ((1 : Int32) &&& 31)) l1); have := q255; have := am_255 (sel (x1 <<< ((1 : Int32) &&& 31)) l1); have := a_add (x1 <<< ((1 : Int32) &&& 31)) (1 : Int32); have := rng32 (sel ((x1 <<< ((1 : Int32) &&& 31)) + (1 : Int32)) l1); have := am_255 (sel ((x1 <<< ((1 : Int32) &&& 31)) + (1 : Int32)) l1); have := q8; have := ashl_8 ((sel ((x1 <<< ((1 : Int32) &&& 31)) + (1 : Int32)) l1) &&& (255 : Int32)); have := a_or88 (sel (x1 <<< ((1 : Int32) &&& 31)) l1) (sel ((x1 <<< ((1 : Int32) &&& 31)) + (1 : Int32)) l1); have := ashr_1 x2; omega)) ?_
  exact W.ireturn d47_59 rfl (Or.inr (Or.inr (Or.inr (Or.inl rfl)))) (nw_char (by have := q1; have := ashl_1 x1; have := rng32 (sel (x1 <<< ((1 : Int32) &&& 31)) l1); have := q255; have := am_255 (sel (x1 <<< ((1 : Int32) &&& 31)) l1); have := a_add (x1 <<< ((1 : Int32) &&& 31)) (1 : Int32); have := rng32 (sel ((x1 <<< ((1 : Int32) &&& 31)) + (1 : Int32)) l1); have := am_255 (sel ((x1 <<< ((1 : Int32) &&& 31)) + (1 : Int32)) l1); have := q8; have := ashl_8 ((sel ((x1 <<< ((1 : Int32) &&& 31)) + (1 : Int32)) l1) &&& (255 : Int32)); have := a_or88 (sel (x1 <<< ((1 : Int32) &&& 31)) l1) (sel ((x1 <<< ((1 : Int32) &&& 31)) + (1 : Int32)) l1); have := ashr_1 x2; omega)) (by decide) ⟨rfl, rfl⟩
theorem d43_10 : decode jdk_52_method_83_code 10 = .ok (.ireturn, 1) := by decide +kernel
abbrev y54 : MethodName := ⟨"java/lang/StringUTF16", "charAt", "([BI)C"⟩
abbrev y54b : ByteArray := jdk_52_method_83_code
abbrev y54r : Option Jvm.ClassFile.FieldType := (Option.some Jvm.ClassFile.FieldType.char)
theorem c86_charAt {Z a0} (hw : HW a0 Z) (hs : SF Z) {p1 : Addr} {x1 : Int32} (hx1 : 0 ≤ x1.toInt ∧ x1.toInt ≤ 15) {x2 : Int32} (hx2 : 0 ≤ x2.toInt ∧ x2.toInt ≤ 15) {l1 : List Int32} (hl_l1 : (l1.length : Int) = x2.toInt) (hr0 : x1.toInt < (x2 >>> ((1 : Int32) &&& 31)).toInt) {w_p1 : Bool} {ad_p1 : String} {F : List Ent} (mp1 : (p1, w_p1, ar ad_p1 .byte (lm l1)) ∈ F) : Con Z EL y54 y54b 2 y54r (rmm 3 0 0 40) [(vr p1), (vi x1)] (F) (fun v D' => (v = some (vi (((sel (x1 <<< ((1 : Int32) &&& 31)) l1) &&& (255 : Int32)) ||| (((sel ((x1 <<< ((1 : Int32) &&& 31)) + (1 : Int32)) l1) &&& (255 : Int32)) <<< ((8 : Int32) &&& 31)))) ∧ F = D')) := by
  refine Con.of (ls := #[rv p1, iv x1]) (by decide +kernel) rfl ?_
  refine W.iloadN d43_0 rfl ?_
  refine W.aloadN d43_1 rfl rfl ?_
  refine W.callS (as := [(vi x1), (vr p1)]) 0 [] d43_2 (wq hw 252 rfl) (wq hw 253 rfl) (wq hw 193 rfl) (wq hw 254 rfl) (c87_checkIndex hw hs (hx1 := hx1) (hx2 := hx2) (hr0 := by have := q1; have := ashr_1 x2; omega) (l1 := l1) (hl_l1 := hl_l1) (mp1 := mp1)) (by decide) pd_I_B_V rfl rfl rfl rfl (by decide) (fun v D' h => ?_)
  obtain ⟨rfl, rfl⟩ := h
  show W _ _ _ _ _ _ _ _ _ _ _ _ 5 _ []
  refine W.aloadN d43_5 rfl rfl ?_
  refine W.iloadN d43_6 rfl ?_
  refine W.callS (as := [(vr p1), (vi x1)]) 0 [] d43_7 (wq hw 261 rfl) (wq hw 262 rfl) (wq hw 193 rfl) (wq hw 263 rfl) (c88_getChar hw hs (hx1 := hx1) (hx2 := hx2) (hr0 := by have := q1; have := ashr_1 x2; omega) (l1 := l1) (hl_l1 := hl_l1) (mp1 := mp1)) (by decide) pd__BI_C rfl rfl rfl rfl (by decide) (fun v D' h => ?_)
  obtain ⟨rfl, rfl⟩ := h
  show W _ _ _ _ _ _ _ _ _ _ _ _ 10 _ [(vi (((sel (x1 <<< ((1 : Int32) &&& 31)) l1) &&& (255 : Int32)) ||| (((sel ((x1 <<< ((1 : Int32) &&& 31)) + (1 : Int32)) l1) &&& (255 : Int32)) <<< ((8 : Int32) &&& 31))))]
  exact W.ireturn d43_10 rfl (Or.inr (Or.inr (Or.inr (Or.inl rfl)))) (nw_char (by have := q1; have := ashl_1 x1; have := rng32 (sel (x1 <<< ((1 : Int32) &&& 31)) l1); have := q255; have := am_255 (sel (x1 <<< ((1 : Int32) &&& 31)) l1); have := a_add (x1 <<< ((1 : Int32) &&& 31)) (1 : Int32); have := rng32 (sel ((x1 <<< ((1 : Int32) &&& 31)) + (1 : Int32)) l1); have := am_255 (sel ((x1 <<< ((1 : Int32) &&& 31)) + (1 : Int32)) l1); have := q8; have := ashl_8 ((sel ((x1 <<< ((1 : Int32) &&& 31)) + (1 : Int32)) l1) &&& (255 : Int32)); have := a_or88 (sel (x1 <<< ((1 : Int32) &&& 31)) l1) (sel ((x1 <<< ((1 : Int32) &&& 31)) + (1 : Int32)) l1); have := ashr_1 x2; omega)) (by decide) ⟨rfl, rfl⟩
theorem d41_24 : decode jdk_42_method_56_code 24 = .ok (.ireturn, 1) := by decide +kernel
theorem c84_charAt {Z a0} (hw : HW a0 Z) (hs : SF Z) {p1 p2 : Addr} {x1 : Int32} (hx1 : 0 ≤ x1.toInt ∧ x1.toInt ≤ 15) {x2 : Int32} (hx2 : 0 ≤ x2.toInt ∧ x2.toInt ≤ 15) {l1 : List Int32} (hl_l1 : (l1.length : Int) = x2.toInt) (hr0 : x1.toInt < (x2 >>> ((1 : Int32) &&& 31)).toInt) {w_p1 : Bool} {w_p2 : Bool} {ad_p2 : String} {F : List Ent} (mp1 : (p1, w_p1, oString (vr p2) (vi 1)) ∈ F) (mp2 : (p2, w_p2, ar ad_p2 .byte (lm l1)) ∈ F) : Con Z EL y50 y50b 2 y50r (rmm 4 0 0 53) [(vr p1), (vi x1)] (F) (fun v D' => (v = some (vi (((sel (x1 <<< ((1 : Int32) &&& 31)) l1) &&& (255 : Int32)) ||| (((sel ((x1 <<< ((1 : Int32) &&& 31)) + (1 : Int32)) l1) &&& (255 : Int32)) <<< ((8 : Int32) &&& 31)))) ∧ F = D')) := by
  refine Con.of (ls := #[rv p1, iv x1]) (by decide +kernel) rfl ?_
  refine W.aloadN d41_0 rfl rfl ?_
  refine W.callV (as := []) 0 [] d41_1 (wq hw 244 rfl) (wq hw 245 rfl) (wq hw 247 rfl) (wq hw 247 rfl) (wq hw 246 rfl) (wq hw 6 rfl) (wq hw 248 rfl) (Hp.exa mp1) (c85_isLatin1 hw hs (mp1 := mp1)) (by decide) pd__Z rfl rfl rfl rfl (by decide) (fun v D' h => ?_)
  obtain ⟨rfl, rfl⟩ := h
  show W _ _ _ _ _ _ _ _ _ _ _ _ 4 _ [(vi 0)]
  refine W.ifY 16 d41_4 (y_eq (by decide)) (by decide) ?_
  refine W.aloadN d41_16 rfl rfl ?_
  refine W.getf d41_17 (wq hw 73 rfl) Via.refl mp1 m0 ?_
  refine W.iloadN d41_20 rfl ?_
  refine W.callS (as := [(vr p2), (vi x1)]) 0 [] d41_21 (wq hw 249 rfl) (wq hw 250 rfl) (wq hw 193 rfl) (wq hw 251 rfl) (c86_charAt hw hs (hx1 := hx1) (hx2 := hx2) (hr0 := by have := q1; have := ashr_1 x2; omega) (l1 := l1) (hl_l1 := hl_l1) (mp1 := mp2)) (by decide) pd__BI_C rfl rfl rfl rfl (by decide) (fun v D' h => ?_)
  obtain ⟨rfl, rfl⟩ := h
  show W _ _ _ _ _ _ _ _ _ _ _ _ 24 _ [(vi (((sel (x1 <<< ((1 : Int32) &&& 31)) l1) &&& (255 : Int32)) ||| (((sel ((x1 <<< ((1 : Int32) &&& 31)) + (1 : Int32)) l1) &&& (255 : Int32)) <<< ((8 : Int32) &&& 31))))]
  exact W.ireturn d41_24 rfl (Or.inr (Or.inr (Or.inr (Or.inl rfl)))) (nw_char (by have := q1; have := ashl_1 x1; have := rng32 (sel (x1 <<< ((1 : Int32) &&& 31)) l1); have := q255; have := am_255 (sel (x1 <<< ((1 : Int32) &&& 31)) l1); have := a_add (x1 <<< ((1 : Int32) &&& 31)) (1 : Int32); have := rng32 (sel ((x1 <<< ((1 : Int32) &&& 31)) + (1 : Int32)) l1); have := am_255 (sel ((x1 <<< ((1 : Int32) &&& 31)) + (1 : Int32)) l1); have := q8; have := ashl_8 ((sel ((x1 <<< ((1 : Int32) &&& 31)) + (1 : Int32)) l1) &&& (255 : Int32)); have := a_or88 (sel (x1 <<< ((1 : Int32) &&& 31)) l1) (sel ((x1 <<< ((1 : Int32) &&& 31)) + (1 : Int32)) l1); have := ashr_1 x2; omega)) (by decide) ⟨rfl, rfl⟩
theorem c83_at {Z a0} (hw : HW a0 Z) (hs : SF Z) {p1 p2 p3 p4 : Addr} {x1 : Int32} (hx1 : 0 ≤ x1.toInt ∧ x1.toInt ≤ 127) {x2 : Int32} (hx2 : 0 ≤ x2.toInt ∧ x2.toInt ≤ 15) {x3 : Int32} (hx3 : 0 ≤ x3.toInt ∧ x3.toInt ≤ 15) {x4 : Int32} (hx4 : 0 ≤ x4.toInt ∧ x4.toInt ≤ 15) {x5 : Int32} (hx5 : 0 ≤ x5.toInt ∧ x5.toInt ≤ 15) {x6 : Int32} (hx6 : 0 ≤ x6.toInt ∧ x6.toInt ≤ 15) {l1 : List Int32} (hl_l1 : (l1.length : Int) = (3 : Int32).toInt) (hb_l1 : ∀ x ∈ l1, 0 ≤ x.toInt ∧ x.toInt ≤ 65535) {l2 : List Int32} (hl_l2 : (l2.length : Int) = (3 : Int32).toInt) (hb_l2 : ∀ x ∈ l2, 0 ≤ x.toInt ∧ x.toInt ≤ 65535) {l3 : List Int32} (hl_l3 : (l3.length : Int) = x6.toInt) (hr0 : (x3 + x5).toInt ≤ (x6 >>> ((1 : Int32) &&& 31)).toInt) (hr1 : (x2 + x3).toInt ≤ (3 : Int32).toInt) (hr2 : (x4 + x5).toInt ≤ (3 : Int32).toInt) (hA : x1.toInt < x3.toInt → dc 1 l3 x1.toInt.toNat = l1.getD (x2.toInt.toNat + x1.toInt.toNat) 0) (hB : x3.toInt ≤ x1.toInt → x1.toInt < (x3 + x5).toInt → dc 1 l3 x1.toInt.toNat = l2.getD (x4.toInt.toNat + (x1.toInt.toNat - x3.toInt.toNat)) 0) {w_p3 : Bool} {ad_p3 : String} {w_p1 : Bool} {w_p4 : Bool} {ad_p4 : String} {w_p2 : Bool} {ad_p2 : String} {F : List Ent} (mp3 : (p3, w_p3, ar ad_p3 .char (lm l2)) ∈ F) (mp1 : (p1, w_p1, oString (vr p4) (vi 1)) ∈ F) (mp4 : (p4, w_p4, ar ad_p4 .byte (lm l3)) ∈ F) (mp2 : (p2, w_p2, ar ad_p2 .char (lm l1)) ∈ F) : Con Z EL y51 y51b 9 y51r (rmm 5 0 0 66) [(vr p1), (vi x1), (vr p2), (vi x2), (vi x3), (vr p3), (vi x4), (vi x5)] (F) (fun v D' => (v = some (vi 1) ∧ F = D')) := by
  refine Con.of (ls := #[rv p1, iv x1, rv p2, iv x2, iv x3, rv p3, iv x4, iv x5, uu]) (by decide +kernel) rfl ?_
  refine W.iloadN d25_0 rfl ?_
  refine W.iload d25_1 rfl ?_
  refine W.iload d25_3 rfl ?_
  refine W.iadd d25_5 ?_
  refine W.icmp 11 d25_6 (by decide) (fun h1 => ?_) (fun h1 => ?_)
  ·
   have ih1 := t_lt h1
   refine W.iloadN d25_11 rfl ?_
   refine W.iload d25_12 rfl ?_
   refine W.icmp 27 d25_14 (by decide) (fun h2 => ?_) (fun h2 => ?_)
   ·
    have ih2 := t_ge h2
    refine W.aload 5 d25_27 rfl rfl ?_
    refine W.iload d25_29 rfl ?_
    refine W.iloadN d25_31 rfl ?_
    refine W.iadd d25_32 ?_
    refine W.iload d25_33 rfl ?_
    refine W.isub d25_35 ?_
    refine W.caloadS (j' := ((x4 + x1) - x3)) (l := l2) d25_36 mp3 rfl (by have := hl_l2; have := a_add x4 x1; have := a_sub (x4 + x1) x3; have := q3; have := q0; have := a_add x3 x5; have := q1; have := ashr_1 x6; have := a_add x2 x3; have := a_add x4 x5; omega) ?_
    refine W.istore (ls' := #[rv p1, iv x1, rv p2, iv x2, iv x3, rv p3, iv x4, iv x5, iv (sel ((x4 + x1) - x3) l2)]) d25_37 rfl ?_
    refine W.aloadN d25_39 rfl rfl ?_
    refine W.iloadN d25_40 rfl ?_
    refine W.callV (as := [(vi x1)]) 0 [] d25_41 (wq hw 239 rfl) (wq hw 240 rfl) (wq hw 242 rfl) (wq hw 242 rfl) (wq hw 241 rfl) (wq hw 6 rfl) (wq hw 243 rfl) (Hp.exa mp1) (c84_charAt hw hs (hx1 := (by have := a_add x3 x5; have := q1; have := ashr_1 x6; have := a_add x2 x3; have := q3; have := a_add x4 x5; omega)) (hx2 := hx6) (hr0 := by have := q1; have := ashr_1 x6; have := a_add x3 x5; have := a_add x2 x3; have := q3; have := a_add x4 x5; omega) (l1 := l3) (hl_l1 := hl_l3) (mp1 := mp1) (mp2 := mp4)) (by decide) pd_I_C rfl rfl rfl rfl (by decide) (fun v D' h => ?_)
    obtain ⟨rfl, rfl⟩ := h
    show W _ _ _ _ _ _ _ _ _ _ _ _ 44 _ [(vi (((sel (x1 <<< ((1 : Int32) &&& 31)) l3) &&& (255 : Int32)) ||| (((sel ((x1 <<< ((1 : Int32) &&& 31)) + (1 : Int32)) l3) &&& (255 : Int32)) <<< ((8 : Int32) &&& 31))))]
    refine W.iload d25_44 rfl ?_
    have hq : (((sel (x1 <<< ((1 : Int32) &&& 31)) l3) &&& (255 : Int32)) ||| (((sel ((x1 <<< ((1 : Int32) &&& 31)) + (1 : Int32)) l3) &&& (255 : Int32)) <<< ((8 : Int32) &&& 31))).toInt = (sel ((x4 + x1) - x3) l2).toInt := cmp1 (hB (by have := a_add x4 x1; have := a_sub (x4 + x1) x3; have := a_add x3 x5; have := q1; have := ashr_1 x6; have := a_add x2 x3; have := q3; have := a_add x4 x5; omega) (by have := a_add x4 x1; have := a_sub (x4 + x1) x3; have := a_add x3 x5; have := q1; have := ashr_1 x6; have := a_add x2 x3; have := q3; have := a_add x4 x5; omega)) (by have := a_add x4 x1; have := a_sub (x4 + x1) x3; have := a_add x3 x5; have := q1; have := ashr_1 x6; have := a_add x2 x3; have := q3; have := a_add x4 x5; omega) (by have := a_add x4 x1; have := a_sub (x4 + x1) x3; have := a_add x3 x5; have := q1; have := ashr_1 x6; have := a_add x2 x3; have := q3; have := a_add x4 x5; omega)
    refine W.icmpN d25_46 (n_ne (by have := q1; have := ashl_1 x1; have := rng32 (sel (x1 <<< ((1 : Int32) &&& 31)) l3); have := q255; have := am_255 (sel (x1 <<< ((1 : Int32) &&& 31)) l3); have := a_add (x1 <<< ((1 : Int32) &&& 31)) (1 : Int32); have := rng32 (sel ((x1 <<< ((1 : Int32) &&& 31)) + (1 : Int32)) l3); have := am_255 (sel ((x1 <<< ((1 : Int32) &&& 31)) + (1 : Int32)) l3); have := q8; have := ashl_8 ((sel ((x1 <<< ((1 : Int32) &&& 31)) + (1 : Int32)) l3) &&& (255 : Int32)); have := a_or88 (sel (x1 <<< ((1 : Int32) &&& 31)) l3) (sel ((x1 <<< ((1 : Int32) &&& 31)) + (1 : Int32)) l3); have := a_add x4 x1; have := a_sub (x4 + x1) x3; have := sel_b hb_l2 (by decide) ((x4 + x1) - x3); have := a_add x3 x5; have := ashr_1 x6; have := a_add x2 x3; have := q3; have := a_add x4 x5; omega)) ?_
    refine W.iconst (1) d25_49 (by decide) ?_
    refine W.goto 54 d25_50 (by decide) ?_
    exact W.ireturn d25_54 rfl (Or.inr (Or.inl rfl)) (nw_bool (by decide)) (by decide) ⟨rfl, rfl⟩
   ·
    have ih2 := f_ge h2
    refine W.aloadN d25_17 rfl rfl ?_
    refine W.iloadN d25_18 rfl ?_
    refine W.iloadN d25_19 rfl ?_
    refine W.iadd d25_20 ?_
    refine W.caloadS (j' := (x2 + x1)) (l := l1) d25_21 mp2 rfl (by have := hl_l1; have := a_add x2 x1; have := q3; have := q0; have := a_add x2 x3; have := a_add x3 x5; have := q1; have := ashr_1 x6; have := a_add x4 x5; omega) ?_
    refine W.istore (ls' := #[rv p1, iv x1, rv p2, iv x2, iv x3, rv p3, iv x4, iv x5, iv (sel (x2 + x1) l1)]) d25_22 rfl ?_
    refine W.goto 39 d25_24 (by decide) ?_
    refine W.aloadN d25_39 rfl rfl ?_
    refine W.iloadN d25_40 rfl ?_
    refine W.callV (as := [(vi x1)]) 0 [] d25_41 (wq hw 239 rfl) (wq hw 240 rfl) (wq hw 242 rfl) (wq hw 242 rfl) (wq hw 241 rfl) (wq hw 6 rfl) (wq hw 243 rfl) (Hp.exa mp1) (c84_charAt hw hs (hx1 := (by have := a_add x3 x5; have := q1; have := ashr_1 x6; have := a_add x2 x3; have := q3; have := a_add x4 x5; omega)) (hx2 := hx6) (hr0 := by have := q1; have := ashr_1 x6; have := a_add x3 x5; have := a_add x2 x3; have := q3; have := a_add x4 x5; omega) (l1 := l3) (hl_l1 := hl_l3) (mp1 := mp1) (mp2 := mp4)) (by decide) pd_I_C rfl rfl rfl rfl (by decide) (fun v D' h => ?_)
    obtain ⟨rfl, rfl⟩ := h
    show W _ _ _ _ _ _ _ _ _ _ _ _ 44 _ [(vi (((sel (x1 <<< ((1 : Int32) &&& 31)) l3) &&& (255 : Int32)) ||| (((sel ((x1 <<< ((1 : Int32) &&& 31)) + (1 : Int32)) l3) &&& (255 : Int32)) <<< ((8 : Int32) &&& 31))))]
    refine W.iload d25_44 rfl ?_
    have hq : (((sel (x1 <<< ((1 : Int32) &&& 31)) l3) &&& (255 : Int32)) ||| (((sel ((x1 <<< ((1 : Int32) &&& 31)) + (1 : Int32)) l3) &&& (255 : Int32)) <<< ((8 : Int32) &&& 31))).toInt = (sel (x2 + x1) l1).toInt := cmp1 (hA (by have := a_add x2 x1; have := a_add x3 x5; have := q1; have := ashr_1 x6; have := a_add x2 x3; have := q3; have := a_add x4 x5; omega)) (by have := a_add x2 x1; have := a_add x3 x5; have := q1; have := ashr_1 x6; have := a_add x2 x3; have := q3; have := a_add x4 x5; omega) (by have := a_add x2 x1; have := a_add x3 x5; have := q1; have := ashr_1 x6; have := a_add x2 x3; have := q3; have := a_add x4 x5; omega)
    refine W.icmpN d25_46 (n_ne (by have := q1; have := ashl_1 x1; have := rng32 (sel (x1 <<< ((1 : Int32) &&& 31)) l3); have := q255; have := am_255 (sel (x1 <<< ((1 : Int32) &&& 31)) l3); have := a_add (x1 <<< ((1 : Int32) &&& 31)) (1 : Int32); have := rng32 (sel ((x1 <<< ((1 : Int32) &&& 31)) + (1 : Int32)) l3); have := am_255 (sel ((x1 <<< ((1 : Int32) &&& 31)) + (1 : Int32)) l3); have := q8; have := ashl_8 ((sel ((x1 <<< ((1 : Int32) &&& 31)) + (1 : Int32)) l3) &&& (255 : Int32)); have := a_or88 (sel (x1 <<< ((1 : Int32) &&& 31)) l3) (sel ((x1 <<< ((1 : Int32) &&& 31)) + (1 : Int32)) l3); have := a_add x2 x1; have := sel_b hb_l1 (by decide) (x2 + x1); have := a_add x2 x3; have := q3; have := a_add x3 x5; have := ashr_1 x6; have := a_add x4 x5; omega)) ?_
    refine W.iconst (1) d25_49 (by decide) ?_
    refine W.goto 54 d25_50 (by decide) ?_
    exact W.ireturn d25_54 rfl (Or.inr (Or.inl rfl)) (nw_bool (by decide)) (by decide) ⟨rfl, rfl⟩
  ·
   have ih1 := f_lt h1
   refine W.iconst (1) d25_9 (by decide) ?_
   exact W.ireturn d25_10 rfl (Or.inr (Or.inl rfl)) (nw_bool (by decide)) (by decide) ⟨rfl, rfl⟩
theorem c95_max {Z a0} (hw : HW a0 Z) (hs : SF Z) {x1 : Int32} (hx1 : 0 ≤ x1.toInt ∧ x1.toInt ≤ 31) {x2 : Int32} (hx2 : 0 ≤ x2.toInt ∧ x2.toInt ≤ 31) {F : List Ent} : Con Z EL y11 y11b 2 y11r (rmm 0 0 0 0) [(vi x1), (vi (x2 + (4 : Int32)))] (F) (fun v D' => (Cd .lt x1 (x2 + (4 : Int32)) ∧ v = some (vi (x2 + (4 : Int32))) ∧ F = D') ∨ (¬ Cd .lt x1 (x2 + (4 : Int32)) ∧ v = some (vi x1) ∧ F = D')) := by
  refine Con.of (ls := #[iv x1, iv (x2 + (4 : Int32))]) (by decide +kernel) rfl ?_
  refine W.iloadN d51_0 rfl ?_
  refine W.iloadN d51_1 rfl ?_
  refine W.icmp 9 d51_2 (by decide) (fun h1 => ?_) (fun h1 => ?_)
  ·
   have ih1 := t_lt h1
   refine W.iloadN d51_9 rfl ?_
   exact W.ireturn d51_10 rfl (Or.inl rfl) rfl (by decide) (Or.inl ⟨h1, rfl, rfl⟩)
  ·
   have ih1 := f_lt h1
   refine W.iloadN d51_5 rfl ?_
   refine W.goto 10 d51_6 (by decide) ?_
   exact W.ireturn d51_10 rfl (Or.inl rfl) rfl (by decide) (Or.inr ⟨h1, rfl, rfl⟩)
theorem c94_newLength {Z a0} (hw : HW a0 Z) (hs : SF Z) {x1 : Int32} (hx1 : 0 ≤ x1.toInt ∧ x1.toInt ≤ 31) {x2 : Int32} (hx2 : 0 ≤ x2.toInt ∧ x2.toInt ≤ 31) {F : List Ent} : Con Z EL y12 y12b 4 y12r (rmm 1 0 0 14) [(vi x1), (vi x2), (vi (x1 + (4 : Int32)))] (F) (fun v D' => (Cd .lt x2 (x1 + (4 : Int32)) ∧ v = some (vi (x1 + (x1 + (4 : Int32)))) ∧ F = D') ∨ (¬ Cd .lt x2 (x1 + (4 : Int32)) ∧ v = some (vi (x1 + x2)) ∧ F = D')) := by
  refine Con.of (ls := #[iv x1, iv x2, iv (x1 + (4 : Int32)), uu]) (by decide +kernel) rfl ?_
  refine W.iloadN d50_0 rfl ?_
  refine W.iloadN d50_1 rfl ?_
  refine W.iloadN d50_2 rfl ?_
  refine W.callS (as := [(vi x2), (vi (x1 + (4 : Int32)))]) 1 [(vi x1)] d50_3 (wq hw 277 rfl) (wq hw 278 rfl) (wq hw 279 rfl) (wq hw 280 rfl) (c95_max hw hs (hx1 := hx2) (hx2 := hx1)) (by decide) pd_II_I rfl rfl rfl rfl (by decide) (fun v D' h => ?_)
  rcases h with ⟨h1, rfl, rfl⟩ | ⟨h2, rfl, rfl⟩
  ·
   have ih1 := t_lt h1
   show W _ _ _ _ _ _ _ _ _ _ _ _ 6 _ [(vi (x1 + (4 : Int32))), (vi x1)]
   refine W.iadd d50_6 ?_
   refine W.istoreN (ls' := #[iv x1, iv x2, iv (x1 + (4 : Int32)), iv (x1 + (x1 + (4 : Int32)))]) d50_7 rfl ?_
   refine W.iconst (0) d50_8 (by decide) ?_
   refine W.iloadN d50_9 rfl ?_
   refine W.icmpN d50_10 (n_ge (by have := q0; have := q4; have := a_add x1 (4 : Int32); have := a_add x1 (x1 + (4 : Int32)); omega)) ?_
   refine W.iloadN d50_13 rfl ?_
   refine W.ldcI d50_14 (wq hw 281 rfl) ?_
   refine W.icmpN d50_16 (n_gt (by have := q4; have := a_add x1 (4 : Int32); have := a_add x1 (x1 + (4 : Int32)); have := q2147483639; omega)) ?_
   refine W.iloadN d50_19 rfl ?_
   exact W.ireturn d50_20 rfl (Or.inl rfl) rfl (by decide) (Or.inl ⟨h1, rfl, rfl⟩)
  ·
   have ih2 := f_lt h2
   show W _ _ _ _ _ _ _ _ _ _ _ _ 6 _ [(vi x2), (vi x1)]
   refine W.iadd d50_6 ?_
   refine W.istoreN (ls' := #[iv x1, iv x2, iv (x1 + (4 : Int32)), iv (x1 + x2)]) d50_7 rfl ?_
   refine W.iconst (0) d50_8 (by decide) ?_
   refine W.iloadN d50_9 rfl ?_
   refine W.icmpN d50_10 (n_ge (by have := q0; have := a_add x1 x2; have := q4; have := a_add x1 (4 : Int32); omega)) ?_
   refine W.iloadN d50_13 rfl ?_
   refine W.ldcI d50_14 (wq hw 281 rfl) ?_
   refine W.icmpN d50_16 (n_gt (by have := a_add x1 x2; have := q2147483639; have := q4; have := a_add x1 (4 : Int32); omega)) ?_
   refine W.iloadN d50_19 rfl ?_
   exact W.ireturn d50_20 rfl (Or.inl rfl) rfl (by decide) (Or.inr ⟨h2, rfl, rfl⟩)
theorem c93_newCapacity {Z a0} (hw : HW a0 Z) (hs : SF Z) {p1 p2 : Addr} {x1 : Int32} (hx1 : 0 ≤ x1.toInt ∧ x1.toInt ≤ 15) {x4 : Int32} (hx4 : 0 ≤ x4.toInt ∧ x4.toInt ≤ 31) {l1 : List Int32} (hl_l1 : (l1.length : Int) = x4.toInt) (hr0 : (x4 >>> ((1 : Int32) &&& 31)).toInt < x1.toInt) {f_p1_2 f_p1_3 : Value} {w_p1 : Bool} {w_p2 : Bool} {ad_p2 : String} {F : List Ent} (mp1 : (p1, w_p1, oStringBuilder (vr p2) (vi 1) f_p1_2 f_p1_3) ∈ F) (mp2 : (p2, w_p2, ar ad_p2 .byte (lm l1)) ∈ F) : Con Z EL y13 y13b 6 y13r (rmm 2 0 0 29) [(vr p1), (vi x1)] (F) (fun v D' => (Cd .lt ((x1 <<< ((1 : Int32) &&& 31)) - x4) (x4 + (4 : Int32)) ∧ v = some (vi ((x4 + (x4 + (4 : Int32))) >>> ((1 : Int32) &&& 31))) ∧ F = D') ∨ (¬ Cd .lt ((x1 <<< ((1 : Int32) &&& 31)) - x4) (x4 + (4 : Int32)) ∧ v = some (vi ((x4 + ((x1 <<< ((1 : Int32) &&& 31)) - x4)) >>> ((1 : Int32) &&& 31))) ∧ F = D')) := by
  refine Con.of (ls := #[rv p1, iv x1, uu, uu, uu, uu]) (by decide +kernel) rfl ?_
  refine W.aloadN d49_0 rfl rfl ?_
  refine W.getf d49_1 (wq hw 100 rfl) Via.refl mp1 m0 ?_
  refine W.alenS (l := l1) (z := x4) d49_4 mp2 hl_l1 ?_
  refine W.istoreN (ls' := #[rv p1, iv x1, iv x4, uu, uu, uu]) d49_5 rfl ?_
  refine W.iloadN d49_6 rfl ?_
  refine W.aloadN d49_7 rfl rfl ?_
  refine W.getf d49_8 (wq hw 102 rfl) Via.refl mp1 m1 ?_
  refine W.ishl d49_11 ?_
  refine W.istoreN (ls' := #[rv p1, iv x1, iv x4, iv (x1 <<< ((1 : Int32) &&& 31)), uu, uu]) d49_12 rfl ?_
  refine W.iloadN d49_13 rfl ?_
  refine W.iloadN d49_14 rfl ?_
  refine W.isub d49_15 ?_
  refine W.istore (ls' := #[rv p1, iv x1, iv x4, iv (x1 <<< ((1 : Int32) &&& 31)), iv ((x1 <<< ((1 : Int32) &&& 31)) - x4), uu]) d49_16 rfl ?_
  refine W.iloadN d49_18 rfl ?_
  refine W.iload d49_19 rfl ?_
  refine W.iloadN d49_21 rfl ?_
  refine W.iconst (2) d49_22 (by decide) ?_
  refine W.aloadN d49_23 rfl rfl ?_
  refine W.getf d49_24 (wq hw 102 rfl) Via.refl mp1 m1 ?_
  refine W.ishlK (4 : Int32) d49_27 (by decide) ?_
  refine W.iadd d49_28 ?_
  refine W.callS (as := [(vi x4), (vi ((x1 <<< ((1 : Int32) &&& 31)) - x4)), (vi (x4 + (4 : Int32)))]) 0 [] d49_29 (wq hw 273 rfl) (wq hw 274 rfl) (wq hw 275 rfl) (wq hw 276 rfl) (c94_newLength hw hs (hx1 := hx4) (hx2 := (by have := q1; have := ashl_1 x1; have := a_sub (x1 <<< ((1 : Int32) &&& 31)) x4; have := ashr_1 x4; omega))) (by decide) pd_III_I rfl rfl rfl rfl (by decide) (fun v D' h => ?_)
  rcases h with ⟨h1, rfl, rfl⟩ | ⟨h2, rfl, rfl⟩
  ·
   have ih1 := t_lt h1
   show W _ _ _ _ _ _ _ _ _ _ _ _ 32 _ [(vi (x4 + (x4 + (4 : Int32))))]
   refine W.istore (ls' := #[rv p1, iv x1, iv x4, iv (x1 <<< ((1 : Int32) &&& 31)), iv ((x1 <<< ((1 : Int32) &&& 31)) - x4), iv (x4 + (x4 + (4 : Int32)))]) d49_32 rfl ?_
   refine W.iload d49_34 rfl ?_
   refine W.ldcI d49_36 (wq hw 282 rfl) ?_
   refine W.icmpY 51 d49_38 (y_ne (by have := q4; have := a_add x4 (4 : Int32); have := a_add x4 (x4 + (4 : Int32)); have := q2147483647; have := q1; have := ashr_1 x4; have := ashl_1 x1; have := a_sub (x1 <<< ((1 : Int32) &&& 31)) x4; omega)) (by decide) ?_
   refine W.iload d49_51 rfl ?_
   refine W.aloadN d49_53 rfl rfl ?_
   refine W.getf d49_54 (wq hw 102 rfl) Via.refl mp1 m1 ?_
   refine W.ishr d49_57 ?_
   exact W.ireturn d49_58 rfl (Or.inl rfl) rfl (by decide) (Or.inl ⟨h1, rfl, rfl⟩)
  ·
   have ih2 := f_lt h2
   show W _ _ _ _ _ _ _ _ _ _ _ _ 32 _ [(vi (x4 + ((x1 <<< ((1 : Int32) &&& 31)) - x4)))]
   refine W.istore (ls' := #[rv p1, iv x1, iv x4, iv (x1 <<< ((1 : Int32) &&& 31)), iv ((x1 <<< ((1 : Int32) &&& 31)) - x4), iv (x4 + ((x1 <<< ((1 : Int32) &&& 31)) - x4))]) d49_32 rfl ?_
   refine W.iload d49_34 rfl ?_
   refine W.ldcI d49_36 (wq hw 282 rfl) ?_
   refine W.icmpY 51 d49_38 (y_ne (by have := q1; have := ashl_1 x1; have := a_sub (x1 <<< ((1 : Int32) &&& 31)) x4; have := a_add x4 ((x1 <<< ((1 : Int32) &&& 31)) - x4); have := q2147483647; have := ashr_1 x4; have := q4; have := a_add x4 (4 : Int32); omega)) (by decide) ?_
   refine W.iload d49_51 rfl ?_
   refine W.aloadN d49_53 rfl rfl ?_
   refine W.getf d49_54 (wq hw 102 rfl) Via.refl mp1 m1 ?_
   refine W.ishr d49_57 ?_
   exact W.ireturn d49_58 rfl (Or.inl rfl) rfl (by decide) (Or.inr ⟨h2, rfl, rfl⟩)
theorem c96_copyOf {Z a0} (hw : HW a0 Z) (hs : SF Z) {p1 : Addr} {x1 : Int32} (hx1 : 0 ≤ x1.toInt ∧ x1.toInt ≤ 127) {x2 : Int32} (hx2 : 0 ≤ x2.toInt ∧ x2.toInt ≤ 127) {l1 : List Int32} (hl_l1 : (l1.length : Int) = x2.toInt) (hr0 : x2.toInt < x1.toInt) {w_p1 : Bool} {ad_p1 : String} {F : List Ent} (mp1 : (p1, w_p1, ar ad_p1 .byte (lm l1)) ∈ F) : Con Z EL y15 y15b 3 y15r (rmm 1 1 255 48) [(vr p1), (vi x1)] (F) (fun v D' => (∃ a1 : Addr, ¬ Cd .gt x2 x1 ∧ (((cpl l1 (0 : Int32).toInt.toNat (List.replicate x1.toInt.toNat (0 : Int32)) (0 : Int32).toInt.toNat x2.toInt.toNat)).length : Int) = x1.toInt ∧ v = some (vr a1) ∧ (a1, true, ar "[B" .byte (lm (cpl l1 (0 : Int32).toInt.toNat (List.replicate x1.toInt.toNat (0 : Int32)) (0 : Int32).toInt.toNat x2.toInt.toNat))) :: F = D')) := by
  refine Con.of (ls := #[rv p1, iv x1, uu]) (by decide +kernel) rfl ?_
  refine W.iloadN d52_0 rfl ?_
  refine W.aloadN d52_1 rfl rfl ?_
  refine W.alenS (l := l1) (z := x2) d52_2 mp1 hl_l1 ?_
  refine W.icmpY 14 d52_3 (y_ne (by omega)) (by decide) ?_
  refine W.iloadN d52_14 rfl ?_
  have hl2 := len_rep (z := x1) (by have := q0; omega)
  refine W.newarrB 255 d52_15 (wq hw 8 rfl) (by have := q0; have := q255; omega) (by decide) (by decide) (fun a1 => ?_)
  show W _ _ _ _ _ _ _ _ _ _ _ _ 17 _ [(vr a1)]
  refine W.astoreN (ls' := #[rv p1, iv x1, rv a1]) d52_17 rfl rfl ?_
  refine W.aloadN d52_18 rfl rfl ?_
  refine W.iconst (0) d52_19 (by decide) ?_
  refine W.aloadN d52_20 rfl rfl ?_
  refine W.iconst (0) d52_21 (by decide) ?_
  refine W.aloadN d52_22 rfl rfl ?_
  refine W.alenS (l := l1) (z := x2) d52_23 (mS mp1) hl_l1 ?_
  refine W.iloadN d52_24 rfl ?_
  refine W.callS (as := [(vi x2), (vi x1)]) 4 [(vi 0), (vr a1), (vi 0), (vr p1)] d52_25 (wq hw 286 rfl) (wq hw 287 rfl) (wq hw 279 rfl) (wq hw 288 rfl) (c58_min hw hs (hx1 := hx2) (hx2 := hx1)) (by decide) pd_II_I rfl rfl rfl rfl (by decide) (fun v D' h => ?_)
  rcases h with ⟨h1, rfl, rfl⟩ | ⟨h2, rfl, rfl⟩
  ·
   exact absurd h1 (n_gt (by omega))
  ·
   have ih2 := f_gt h2
   show W _ _ _ _ _ _ _ _ _ _ _ _ 28 _ [(vi x2), (vi 0), (vr a1), (vi 0), (vr p1)]
   have hl3 := len_cplI (l1 := l1) (l2 := (List.replicate x1.toInt.toNat (0 : Int32))) (s := (0 : Int32)) (d := (0 : Int32)) (n := x2) hl_l1 hl2 (by have := q0; omega)
   refine W.cpyS (l1 := l1) (l2 := (List.replicate x1.toInt.toNat (0 : Int32))) (D' := (a1, true, ar "[B" .byte (lm (cpl l1 (0 : Int32).toInt.toNat (List.replicate x1.toInt.toNat (0 : Int32)) (0 : Int32).toInt.toNat x2.toInt.toNat))) :: F) 0 0 d52_28 (wq hw 289 rfl) (wq hw 292 rfl) (wq hw 290 rfl) (wq hw 291 rfl) (mS mp1) rfl rfl (by have := hl_l1; have := hl2; have := q0; omega) rfl rfl (by decide) rfl ?_
   refine W.aloadN d52_31 rfl rfl ?_
   exact W.areturn d52_32 rfl rfl rfl (by decide) ⟨a1, h2, hl3, rfl, rfl⟩
theorem c92_ensureCapacityInternal {Z a0} (hw : HW a0 Z) (hs : SF Z) {p1 p2 : Addr} {x1 : Int32} (hx1 : 0 ≤ x1.toInt ∧ x1.toInt ≤ 15) {x4 : Int32} (hx4 : 0 ≤ x4.toInt ∧ x4.toInt ≤ 63) {l1 : List Int32} (hl_l1 : (l1.length : Int) = x4.toInt) {f_p1_2 f_p1_3 : Value} {w_p2 : Bool} {ad_p2 : String} {F : List Ent} (mp2 : (p2, w_p2, ar ad_p2 .byte (lm l1)) ∈ F) : Con Z EL y16 y16b 3 y16r (rmm 3 1 255 63) [(vr p1), (vi x1)] ((p1, true, oStringBuilder (vr p2) (vi 1) f_p1_2 f_p1_3) :: F) (fun v D' => (Cd .le (x1 - (x4 >>> ((1 : Int32) &&& 31))) (0 : Int32) ∧ v = none ∧ (p1, true, oStringBuilder (vr p2) (vi 1) f_p1_2 f_p1_3) :: F = D') ∨ (∃ a1 : Addr, ¬ Cd .le (x1 - (x4 >>> ((1 : Int32) &&& 31))) (0 : Int32) ∧ Cd .lt ((x1 <<< ((1 : Int32) &&& 31)) - x4) (x4 + (4 : Int32)) ∧ ¬ Cd .gt x4 (((x4 + (x4 + (4 : Int32))) >>> ((1 : Int32) &&& 31)) <<< ((1 : Int32) &&& 31)) ∧ (((cpl l1 (0 : Int32).toInt.toNat (List.replicate (((x4 + (x4 + (4 : Int32))) >>> ((1 : Int32) &&& 31)) <<< ((1 : Int32) &&& 31)).toInt.toNat (0 : Int32)) (0 : Int32).toInt.toNat x4.toInt.toNat)).length : Int) = (((x4 + (x4 + (4 : Int32))) >>> ((1 : Int32) &&& 31)) <<< ((1 : Int32) &&& 31)).toInt ∧ v = none ∧ (a1, true, ar "[B" .byte (lm (cpl l1 (0 : Int32).toInt.toNat (List.replicate (((x4 + (x4 + (4 : Int32))) >>> ((1 : Int32) &&& 31)) <<< ((1 : Int32) &&& 31)).toInt.toNat (0 : Int32)) (0 : Int32).toInt.toNat x4.toInt.toNat))) :: (p1, true, oStringBuilder (vr a1) (vi 1) f_p1_2 f_p1_3) :: F = D') ∨ (∃ a3 : Addr, ¬ Cd .le (x1 - (x4 >>> ((1 : Int32) &&& 31))) (0 : Int32) ∧ ¬ Cd .lt ((x1 <<< ((1 : Int32) &&& 31)) - x4) (x4 + (4 : Int32)) ∧ ¬ Cd .gt x4 (((x4 + ((x1 <<< ((1 : Int32) &&& 31)) - x4)) >>> ((1 : Int32) &&& 31)) <<< ((1 : Int32) &&& 31)) ∧ (((cpl l1 (0 : Int32).toInt.toNat (List.replicate (((x4 + ((x1 <<< ((1 : Int32) &&& 31)) - x4)) >>> ((1 : Int32) &&& 31)) <<< ((1 : Int32) &&& 31)).toInt.toNat (0 : Int32)) (0 : Int32).toInt.toNat x4.toInt.toNat)).length : Int) = (((x4 + ((x1 <<< ((1 : Int32) &&& 31)) - x4)) >>> ((1 : Int32) &&& 31)) <<< ((1 : Int32) &&& 31)).toInt ∧ v = none ∧ (a3, true, ar "[B" .byte (lm (cpl l1 (0 : Int32).toInt.toNat (List.replicate (((x4 + ((x1 <<< ((1 : Int32) &&& 31)) - x4)) >>> ((1 : Int32) &&& 31)) <<< ((1 : Int32) &&& 31)).toInt.toNat (0 : Int32)) (0 : Int32).toInt.toNat x4.toInt.toNat))) :: (p1, true, oStringBuilder (vr a3) (vi 1) f_p1_2 f_p1_3) :: F = D')) := by
  refine Con.of (ls := #[rv p1, iv x1, uu]) (by decide +kernel) rfl ?_
  refine W.aloadN d15_0 rfl rfl ?_
  refine W.getf d15_1 (wq hw 100 rfl) Via.refl m0 m0 ?_
  refine W.alenS (l := l1) (z := x4) d15_4 (mS mp2) hl_l1 ?_
  refine W.aloadN d15_5 rfl rfl ?_
  refine W.getf d15_6 (wq hw 102 rfl) Via.refl m0 m1 ?_
  refine W.ishr d15_9 ?_
  refine W.istoreN (ls' := #[rv p1, iv x1, iv (x4 >>> ((1 : Int32) &&& 31))]) d15_10 rfl ?_
  refine W.iloadN d15_11 rfl ?_
  refine W.iloadN d15_12 rfl ?_
  refine W.isub d15_13 ?_
  refine W.if 38 d15_14 (by decide) (fun h1 => ?_) (fun h1 => ?_)
  ·
   have ih1 := t_le h1
   exact W.return_ d15_38 rfl (by decide) (Or.inl ⟨h1, rfl, rfl⟩)
  ·
   have ih1 := f_le h1
   refine W.aloadN d15_17 rfl rfl ?_
   refine W.aloadN d15_18 rfl rfl ?_
   refine W.getf d15_19 (wq hw 100 rfl) Via.refl m0 m0 ?_
   refine W.aloadN d15_22 rfl rfl ?_
   refine W.iloadN d15_23 rfl ?_
   refine W.callP (as := [(vi x1)]) 2 [(vr p2), (vr p1)] d15_24 (wq hw 268 rfl) (wq hw 269 rfl) (wq hw 271 rfl) (wq hw 270 rfl) (wq hw 96 rfl) (wq hw 272 rfl) (Hp.exa m0) (c93_newCapacity hw hs (hx1 := hx1) (hx4 := (by have := q0; have := q1; have := ashr_1 x4; have := a_sub x1 (x4 >>> ((1 : Int32) &&& 31)); omega)) (hr0 := by have := q1; have := ashr_1 x4; have := q0; have := a_sub x1 (x4 >>> ((1 : Int32) &&& 31)); omega) (l1 := l1) (hl_l1 := hl_l1) (mp1 := m0) (mp2 := (mS mp2))) (by decide) pd_I_I rfl rfl rfl rfl (by decide) (fun v D' h => ?_)
   rcases h with ⟨h2, rfl, rfl⟩ | ⟨h3, rfl, rfl⟩
   ·
    have ih2 := t_lt h2
    show W _ _ _ _ _ _ _ _ _ _ _ _ 27 _ [(vi ((x4 + (x4 + (4 : Int32))) >>> ((1 : Int32) &&& 31))), (vr p2), (vr p1)]
    refine W.aloadN d15_27 rfl rfl ?_
    refine W.getf d15_28 (wq hw 102 rfl) Via.refl m0 m1 ?_
    refine W.ishl d15_31 ?_
    refine W.callS (as := [(vr p2), (vi (((x4 + (x4 + (4 : Int32))) >>> ((1 : Int32) &&& 31)) <<< ((1 : Int32) &&& 31)))]) 1 [(vr p1)] d15_32 (wq hw 283 rfl) (wq hw 284 rfl) (wq hw 167 rfl) (wq hw 285 rfl) (c96_copyOf hw hs (hx1 := (by have := q4; have := a_add x4 (4 : Int32); have := a_add x4 (x4 + (4 : Int32)); have := q1; have := ashr_1 (x4 + (x4 + (4 : Int32))); have := ashl_1 ((x4 + (x4 + (4 : Int32))) >>> ((1 : Int32) &&& 31)); have := q0; have := ashr_1 x4; have := a_sub x1 (x4 >>> ((1 : Int32) &&& 31)); have := ashl_1 x1; have := a_sub (x1 <<< ((1 : Int32) &&& 31)) x4; omega)) (hx2 := (by have := q0; have := q1; have := ashr_1 x4; have := a_sub x1 (x4 >>> ((1 : Int32) &&& 31)); have := ashl_1 x1; have := a_sub (x1 <<< ((1 : Int32) &&& 31)) x4; have := q4; have := a_add x4 (4 : Int32); omega)) (hr0 := by have := q4; have := a_add x4 (4 : Int32); have := a_add x4 (x4 + (4 : Int32)); have := q1; have := ashr_1 (x4 + (x4 + (4 : Int32))); have := ashl_1 ((x4 + (x4 + (4 : Int32))) >>> ((1 : Int32) &&& 31)); have := q0; have := ashr_1 x4; have := a_sub x1 (x4 >>> ((1 : Int32) &&& 31)); have := ashl_1 x1; have := a_sub (x1 <<< ((1 : Int32) &&& 31)) x4; omega) (l1 := l1) (hl_l1 := hl_l1) (mp1 := (mS mp2))) (by decide) pd__BI__B rfl rfl rfl rfl (by decide) (fun v D' h => ?_)
    obtain ⟨a1, h4, hl2, rfl, rfl⟩ := h
    have ih4 := f_gt h4
    show W _ _ _ _ _ _ _ _ _ _ _ _ 35 _ [(vr a1), (vr p1)]
    refine W.putf (D' := (a1, true, ar "[B" .byte (lm (cpl l1 (0 : Int32).toInt.toNat (List.replicate (((x4 + (x4 + (4 : Int32))) >>> ((1 : Int32) &&& 31)) <<< ((1 : Int32) &&& 31)).toInt.toNat (0 : Int32)) (0 : Int32).toInt.toNat x4.toInt.toNat))) :: (p1, true, oStringBuilder (vr a1) (vi 1) f_p1_2 f_p1_3) :: F) 1 0 d15_35 (wq hw 100 rfl) Via.refl rfl rfl (Or.inl (wq hw 101 rfl)) (wq hw 87 rfl) pf_B rfl rfl rfl ?_
    exact W.return_ d15_38 rfl (by decide) (Or.inr (Or.inl ⟨a1, h1, h2, h4, hl2, rfl, rfl⟩))
   ·
    have ih3 := f_lt h3
    show W _ _ _ _ _ _ _ _ _ _ _ _ 27 _ [(vi ((x4 + ((x1 <<< ((1 : Int32) &&& 31)) - x4)) >>> ((1 : Int32) &&& 31))), (vr p2), (vr p1)]
    refine W.aloadN d15_27 rfl rfl ?_
    refine W.getf d15_28 (wq hw 102 rfl) Via.refl m0 m1 ?_
    refine W.ishl d15_31 ?_
    refine W.callS (as := [(vr p2), (vi (((x4 + ((x1 <<< ((1 : Int32) &&& 31)) - x4)) >>> ((1 : Int32) &&& 31)) <<< ((1 : Int32) &&& 31)))]) 1 [(vr p1)] d15_32 (wq hw 283 rfl) (wq hw 284 rfl) (wq hw 167 rfl) (wq hw 285 rfl) (c73_copyOf hw hs (hx1 := (by have := q1; have := ashl_1 x1; have := a_sub (x1 <<< ((1 : Int32) &&& 31)) x4; have := a_add x4 ((x1 <<< ((1 : Int32) &&& 31)) - x4); have := ashr_1 (x4 + ((x1 <<< ((1 : Int32) &&& 31)) - x4)); have := ashl_1 ((x4 + ((x1 <<< ((1 : Int32) &&& 31)) - x4)) >>> ((1 : Int32) &&& 31)); have := q0; have := ashr_1 x4; have := a_sub x1 (x4 >>> ((1 : Int32) &&& 31)); have := q4; have := a_add x4 (4 : Int32); omega)) (hx2 := (by have := q0; have := q1; have := ashr_1 x4; have := a_sub x1 (x4 >>> ((1 : Int32) &&& 31)); have := q4; have := a_add x4 (4 : Int32); have := ashl_1 x1; have := a_sub (x1 <<< ((1 : Int32) &&& 31)) x4; omega)) (hr0 := by have := q1; have := ashl_1 x1; have := a_sub (x1 <<< ((1 : Int32) &&& 31)) x4; have := a_add x4 ((x1 <<< ((1 : Int32) &&& 31)) - x4); have := ashr_1 (x4 + ((x1 <<< ((1 : Int32) &&& 31)) - x4)); have := ashl_1 ((x4 + ((x1 <<< ((1 : Int32) &&& 31)) - x4)) >>> ((1 : Int32) &&& 31)); have := q0; have := ashr_1 x4; have := a_sub x1 (x4 >>> ((1 : Int32) &&& 31)); have := q4; have := a_add x4 (4 : Int32); omega) (l1 := l1) (hl_l1 := hl_l1) (mp1 := (mS mp2))) (by decide) pd__BI__B rfl rfl rfl rfl (by decide) (fun v D' h => ?_)
    obtain ⟨a3, h5, hl4, rfl, rfl⟩ := h
    have ih5 := f_gt h5
    show W _ _ _ _ _ _ _ _ _ _ _ _ 35 _ [(vr a3), (vr p1)]
    refine W.putf (D' := (a3, true, ar "[B" .byte (lm (cpl l1 (0 : Int32).toInt.toNat (List.replicate (((x4 + ((x1 <<< ((1 : Int32) &&& 31)) - x4)) >>> ((1 : Int32) &&& 31)) <<< ((1 : Int32) &&& 31)).toInt.toNat (0 : Int32)) (0 : Int32).toInt.toNat x4.toInt.toNat))) :: (p1, true, oStringBuilder (vr a3) (vi 1) f_p1_2 f_p1_3) :: F) 1 0 d15_35 (wq hw 100 rfl) Via.refl rfl rfl (Or.inl (wq hw 101 rfl)) (wq hw 87 rfl) pf_B rfl rfl rfl ?_
    exact W.return_ d15_38 rfl (by decide) (Or.inr (Or.inr ⟨a3, h1, h3, h5, hl4, rfl, rfl⟩))
theorem d16_107 : decode jdk_68_method_74_code 107 = .ok (.aload_n 0, 1) := by decide +kernel
theorem d16_108 : decode jdk_68_method_74_code 108 = .ok (.getfield 15, 3) := by decide +kernel
theorem d16_111 : decode jdk_68_method_74_code 111 = .ok (.iload 4, 2) := by decide +kernel
theorem d16_113 : decode jdk_68_method_74_code 113 = .ok (.aload_n 1, 1) := by decide +kernel
theorem d16_114 : decode jdk_68_method_74_code 114 = .ok (.iload_n 2, 1) := by decide +kernel
theorem d16_115 : decode jdk_68_method_74_code 115 = .ok (.iload_n 3, 1) := by decide +kernel
theorem d16_116 : decode jdk_68_method_74_code 116 = .ok (.invokestatic 386, 3) := by decide +kernel
theorem c97_appendChars {Z a0} (hw : HW a0 Z) (hs : SF Z) {p1 p2 p3 : Addr} {x1 : Int32} (hx1 : 0 ≤ x1.toInt ∧ x1.toInt ≤ 15) {x2 : Int32} (hx2 : 0 ≤ x2.toInt ∧ x2.toInt ≤ 15) {x3 : Int32} (hx3 : 0 ≤ x3.toInt ∧ x3.toInt ≤ 15) {x5 : Int32} (hx5 : 0 ≤ x5.toInt ∧ x5.toInt ≤ 255) {l1 : List Int32} (hl_l1 : (l1.length : Int) = (3 : Int32).toInt) (hb_l1 : ∀ x ∈ l1, 0 ≤ x.toInt ∧ x.toInt ≤ 65535) {l2 : List Int32} (hl_l2 : (l2.length : Int) = x5.toInt) (hr0 : x1.toInt ≤ x2.toInt) (hr1 : x2.toInt ≤ (3 : Int32).toInt) (hr2 : (x3 + x2).toInt ≤ ((x5 >>> ((1 : Int32) &&& 31)) + x1).toInt) {f_p1_3 : Value} {ad_p3 : String} {w_p2 : Bool} {ad_p2 : String} {F : List Ent} (mp2 : (p2, w_p2, ar ad_p2 .char (lm l1)) ∈ F) : Con Z EL y33 y33b 9 y33r (rmm 4 0 0 59) [(vr p1), (vr p2), (vi x1), (vi x2)] ((p3, true, ar ad_p3 .byte (lm l2)) :: (p1, true, oStringBuilder (vr p3) (vi 1) (vi x3) f_p1_3) :: F) (fun v D' => (∃ gl1 : List Int32, (gl1.length : Int) = x5.toInt ∧ App 1 l2 x3.toInt.toNat 1 gl1 l1 x1.toInt.toNat (x2 - x1).toInt.toNat ∧ v = none ∧ (p3, true, ar ad_p3 .byte (lm gl1)) :: (p1, true, oStringBuilder (vr p3) (vi 1) (vi ((x3 + x2) - x1)) f_p1_3) :: F = D')) := by
  refine Con.of (ls := #[rv p1, rv p2, iv x1, iv x2, uu, uu, uu, uu, uu]) (by decide +kernel) rfl ?_
  refine W.aloadN d16_0 rfl rfl ?_
  refine W.getf d16_1 (wq hw 120 rfl) Via.refl m1 m2 ?_
  refine W.istore (ls' := #[rv p1, rv p2, iv x1, iv x2, iv x3, uu, uu, uu, uu]) d16_4 rfl ?_
  refine W.aloadN d16_6 rfl rfl ?_
  refine W.callV (as := []) 0 [] d16_7 (wq hw 132 rfl) (wq hw 133 rfl) (wq hw 135 rfl) (wq hw 135 rfl) (wq hw 134 rfl) (wq hw 96 rfl) (wq hw 136 rfl) (Hp.exa m1) (c54_isLatin1 hw hs (mp1 := m1)) (by decide) pd__Z rfl rfl rfl rfl (by decide) (fun v D' h => ?_)
  obtain ⟨rfl, rfl⟩ := h
  show W _ _ _ _ _ _ _ _ _ _ _ _ 10 _ [(vi 0)]
  refine W.ifY 107 d16_10 (y_eq (by decide)) (by decide) ?_
  refine W.aloadN d16_107 rfl rfl ?_
  refine W.getf d16_108 (wq hw 100 rfl) Via.refl m1 m0 ?_
  refine W.iload d16_111 rfl ?_
  refine W.aloadN d16_113 rfl rfl ?_
  refine W.iloadN d16_114 rfl ?_
  refine W.iloadN d16_115 rfl ?_
  refine W.callS (as := [(vr p3), (vi x3), (vr p2), (vi x1), (vi x2)]) 0 [] d16_116 (wq hw 224 rfl) (wq hw 225 rfl) (wq hw 193 rfl) (wq hw 226 rfl) (c33_putCharsSB hw hs (hx1 := (by have := a_add x3 x2; have := q1; have := ashr_1 x5; have := a_add (x5 >>> ((1 : Int32) &&& 31)) x1; have := q3; omega)) (hx2 := hx1) (hx3 := hx2) (hx4 := hx5) (hr0 := by have := q3; have := a_add x3 x2; have := q1; have := ashr_1 x5; have := a_add (x5 >>> ((1 : Int32) &&& 31)) x1; omega) (hr1 := by have := q3; have := a_add x3 x2; have := q1; have := ashr_1 x5; have := a_add (x5 >>> ((1 : Int32) &&& 31)) x1; omega) (hr2 := by have := a_add x3 x2; have := q1; have := ashr_1 x5; have := a_add (x5 >>> ((1 : Int32) &&& 31)) x1; have := q3; omega) (l1 := l2) (hl_l1 := hl_l2) (l2 := l1) (hl_l2 := hl_l1) (hb_l2 := hb_l1) (mp2 := (mS mp2))) (by decide) pd__BI_CII_V rfl rfl rfl rfl (by decide) (fun v D' h => ?_)
  obtain ⟨gl1, hgl1, hp2, rfl, rfl⟩ := h
  show W _ _ _ _ _ _ _ _ _ _ _ _ 119 _ []
  refine W.aloadN d16_119 rfl rfl ?_
  refine W.iload d16_120 rfl ?_
  refine W.iloadN d16_122 rfl ?_
  refine W.iadd d16_123 ?_
  refine W.iloadN d16_124 rfl ?_
  refine W.isub d16_125 ?_
  refine W.putf (D' := (p3, true, ar ad_p3 .byte (lm gl1)) :: (p1, true, oStringBuilder (vr p3) (vi 1) (vi ((x3 + x2) - x1)) f_p1_3) :: F) 1 2 d16_126 (wq hw 120 rfl) Via.refl rfl rfl (Or.inl (wq hw 121 rfl)) (wq hw 87 rfl) pfI rfl rfl rfl ?_
  exact W.return_ d16_129 rfl (by decide) ⟨gl1, hgl1, hp2, rfl, rfl⟩
theorem c91_append {Z a0} (hw : HW a0 Z) (hs : SF Z) {p1 p2 p3 : Addr} {x1 : Int32} (hx1 : 0 ≤ x1.toInt ∧ x1.toInt ≤ 7) {x2 : Int32} (hx2 : 0 ≤ x2.toInt ∧ x2.toInt ≤ 7) {x3 : Int32} (hx3 : 0 ≤ x3.toInt ∧ x3.toInt ≤ 7) {x5 : Int32} (hx5 : 0 ≤ x5.toInt ∧ x5.toInt ≤ 63) {l1 : List Int32} (hl_l1 : (l1.length : Int) = (3 : Int32).toInt) (hb_l1 : ∀ x ∈ l1, 0 ≤ x.toInt ∧ x.toInt ≤ 65535) {l2 : List Int32} (hl_l2 : (l2.length : Int) = x5.toInt) (hr0 : (x1 + x2).toInt ≤ (3 : Int32).toInt) (hr1 : x3.toInt ≤ (x5 >>> ((1 : Int32) &&& 31)).toInt) {f_p1_3 : Value} {w_p2 : Bool} {ad_p2 : String} {F : List Ent} (mp2 : (p2, w_p2, ar ad_p2 .char (lm l1)) ∈ F) : Con Z EL y34 y34b 5 y34r (rmm 5 1 255 79) [(vr p1), (vr p2), (vi x1), (vi x2)] ((p3, true, ar "[B" .byte (lm l2)) :: (p1, true, oStringBuilder (vr p3) (vi 1) (vi x3) f_p1_3) :: F) (fun v D' => (∃ a2 : Addr, ∃ g3 : Int32, ∃ gl6 : List Int32, (-64 ≤ g3.toInt ∧ g3.toInt ≤ 130) ∧ (x3 + x2).toInt ≤ (g3 >>> ((1 : Int32) &&& 31)).toInt ∧ (gl6.length : Int) = g3.toInt ∧ App 1 l2 x3.toInt.toNat 1 gl6 l1 x1.toInt.toNat x2.toInt.toNat ∧ v = some (vr p1) ∧ (a2, true, ar "[B" .byte (lm gl6)) :: (p1, true, oStringBuilder (vr a2) (vi 1) (vi (x3 + x2)) f_p1_3) :: F = D')) := by
  refine Con.of (ls := #[rv p1, rv p2, iv x1, iv x2, uu]) (by decide +kernel) rfl ?_
  refine W.iloadN d13_0 rfl ?_
  refine W.iloadN d13_1 rfl ?_
  refine W.iadd d13_2 ?_
  refine W.istore (ls' := #[rv p1, rv p2, iv x1, iv x2, iv (x1 + x2)]) d13_3 rfl ?_
  refine W.iloadN d13_5 rfl ?_
  refine W.iload d13_6 rfl ?_
  refine W.aloadN d13_8 rfl rfl ?_
  refine W.alenS (l := l1) (z := (3 : Int32)) d13_9 (mS (mS mp2)) hl_l1 ?_
  refine W.gets d13_10 (wq hw 114 rfl) Via.refl hs.2.2.2.2.2.1 ?_
  refine W.callS (as := [(vi x1), (vi (x1 + x2)), (vi 3), (ifv Z)]) 0 [] d13_13 (wq hw 117 rfl) (wq hw 118 rfl) (wq hw 115 rfl) (wq hw 119 rfl) (c13_checkFromToIndex hw hs (hx1 := (by have := a_add x1 x2; have := q3; omega)) (hx2 := (by have := a_add x1 x2; have := q3; omega)) (hx3 := (by decide)) (hr0 := by have := q0; have := a_add x1 x2; have := q3; omega) (hr1 := by have := a_add x1 x2; have := q3; omega) (hr2 := by have := a_add x1 x2; have := q3; omega)) (by decide) pd_IIILjava_util_function_BiFunction__I rfl rfl rfl rfl (by decide) (fun v D' h => ?_)
  obtain ⟨rfl, rfl⟩ := h
  show W _ _ _ _ _ _ _ _ _ _ _ _ 16 _ [(vi x1)]
  refine W.popv d13_16 rfl ?_
  have K5 : ∀ (a2 : Addr) (g3 : Int32) (gl4 : List Int32), -64 ≤ g3.toInt ∧ g3.toInt ≤ 130 → (gl4.length : Int) = g3.toInt → ((x3 + x2).toInt ≤ (g3 >>> ((1 : Int32) &&& 31)).toInt) → (∀ i, i < x3.toInt.toNat → dc 1 gl4 i = dc 1 l2 i) → W Z EL (rmm 5 1 255 79) "java/lang/AbstractStringBuilder" "append" jdk_68_method_29_code 5 (Option.some (Jvm.ClassFile.FieldType.object "java/lang/AbstractStringBuilder")) (fun v D' => (∃ a2 : Addr, ∃ g3 : Int32, ∃ gl6 : List Int32, (-64 ≤ g3.toInt ∧ g3.toInt ≤ 130) ∧ (x3 + x2).toInt ≤ (g3 >>> ((1 : Int32) &&& 31)).toInt ∧ (gl6.length : Int) = g3.toInt ∧ App 1 l2 x3.toInt.toNat 1 gl6 l1 x1.toInt.toNat x2.toInt.toNat ∧ v = some (vr p1) ∧ (a2, true, ar "[B" .byte (lm gl6)) :: (p1, true, oStringBuilder (vr a2) (vi 1) (vi (x3 + x2)) f_p1_3) :: F = D')) ((p1, true, oStringBuilder (vr a2) (vi 1) (vi x3) f_p1_3) :: (a2, true, ar "[B" .byte (lm gl4)) :: F) 1 255 27 #[rv p1, rv p2, iv x1, iv x2, iv (x1 + x2)] [] := by
   intro a2 g3 gl4 hg3 hgl4 hN hD
   refine W.aloadN d13_27 rfl rfl ?_
   refine W.aloadN d13_28 rfl rfl ?_
   refine W.iloadN d13_29 rfl ?_
   refine W.iload d13_30 rfl ?_
   refine W.front 1 (D' := (a2, true, ar "[B" .byte (lm gl4)) :: (p1, true, oStringBuilder (vr a2) (vi 1) (vi x3) f_p1_3) :: F) rfl rfl ?_
   refine W.callP (as := [(vr p2), (vi x1), (vi (x1 + x2))]) 0 [] d13_32 (wq hw 127 rfl) (wq hw 128 rfl) (wq hw 130 rfl) (wq hw 129 rfl) (wq hw 96 rfl) (wq hw 131 rfl) (Hp.exa m1) (c97_appendChars hw hs (hx1 := (by have := a_add x1 x2; have := q3; have := a_add x3 x2; have := q1; have := ashr_1 g3; have := ashr_1 x5; omega)) (hx2 := (by have := a_add x1 x2; have := q3; have := a_add x3 x2; have := q1; have := ashr_1 g3; have := ashr_1 x5; omega)) (hx3 := (by have := q1; have := ashr_1 x5; have := a_add x3 x2; have := ashr_1 g3; have := a_add x1 x2; have := q3; omega)) (hx5 := (by have := a_add x3 x2; have := q1; have := ashr_1 g3; have := a_add x1 x2; have := q3; have := ashr_1 x5; omega)) (hr0 := by have := a_add x1 x2; have := q3; have := a_add x3 x2; have := q1; have := ashr_1 g3; have := ashr_1 x5; omega) (hr1 := by have := a_add x1 x2; have := q3; have := a_add x3 x2; have := q1; have := ashr_1 g3; have := ashr_1 x5; omega) (hr2 := by have := a_add x1 x2; have := a_add x3 (x1 + x2); have := q1; have := ashr_1 g3; have := a_add (g3 >>> ((1 : Int32) &&& 31)) x1; have := q3; have := ashr_1 x5; have := a_add x3 x2; omega) (l1 := l1) (hl_l1 := hl_l1) (hb_l1 := hb_l1) (l2 := gl4) (hl_l2 := hgl4) (mp2 := mp2)) (by decide) pd__CII_V rfl rfl rfl rfl (by decide) (fun v D' h => ?_)
   obtain ⟨gl6, hgl6, hp7, rfl, rfl⟩ := h
   show W _ _ _ _ _ _ _ _ _ _ _ _ 35 _ []
   rw [show ((x3 + (x1 + x2)) - x1) = (x3 + x2) from eqI (by have := a_add x1 x2; have := a_add x3 (x1 + x2); have := a_sub (x3 + (x1 + x2)) x1; have := a_add x3 x2; have := q3; have := q1; have := ashr_1 x5; have := ashr_1 g3; omega)]
   have hz := app_base hD hp7 (m' := x2.toInt.toNat) (by have := a_add x1 x2; have := a_sub (x1 + x2) x1; have := q3; have := a_add x3 x2; have := q1; have := ashr_1 g3; have := ashr_1 x5; omega)
   refine W.aloadN d13_35 rfl rfl ?_
   exact W.areturn d13_36 rfl rfl rfl (by decide) ⟨a2, g3, gl6, hg3, hN, hgl6, hz, rfl, rfl⟩
  refine W.aloadN d13_17 rfl rfl ?_
  refine W.aloadN d13_18 rfl rfl ?_
  refine W.getf d13_19 (wq hw 120 rfl) Via.refl m1 m2 ?_
  refine W.iloadN d13_22 rfl ?_
  refine W.iadd d13_23 ?_
  refine W.front 1 (D' := (p1, true, oStringBuilder (vr p3) (vi 1) (vi x3) f_p1_3) :: (p3, true, ar "[B" .byte (lm l2)) :: F) rfl rfl ?_
  refine W.callP (as := [(vi (x3 + x2))]) 0 [] d13_24 (wq hw 122 rfl) (wq hw 123 rfl) (wq hw 125 rfl) (wq hw 124 rfl) (wq hw 96 rfl) (wq hw 126 rfl) (Hp.exa m0) (c92_ensureCapacityInternal hw hs (hx1 := (by have := a_add x3 x2; have := a_add x1 x2; have := q3; have := q1; have := ashr_1 x5; omega)) (hx4 := hx5) (l1 := l2) (hl_l1 := hl_l2) (mp2 := m0)) (by decide) pd_I_V rfl rfl rfl rfl (by decide) (fun v D' h => ?_)
  rcases h with ⟨h1, rfl, rfl⟩ | ⟨a8, h2, h3, h4, hl9, rfl, rfl⟩ | ⟨a10, h5, h6, h7, hl11, rfl, rfl⟩
  ·
   have ih1 := t_le h1
   show W _ _ _ _ _ _ _ _ _ _ _ _ 27 _ []
   exact W.mono (by decide) (by decide) (K5 p3 x5 l2 (by have := q1; have := ashr_1 x5; have := a_add x3 x2; have := a_sub (x3 + x2) (x5 >>> ((1 : Int32) &&& 31)); have := q0; have := a_add x1 x2; have := q3; omega) hl_l2 (by have := a_add x3 x2; have := q1; have := ashr_1 x5; have := a_add x1 x2; have := q3; have := a_sub (x3 + x2) (x5 >>> ((1 : Int32) &&& 31)); have := q0; omega) (fun _ _ => rfl))
  ·
   have ih2 := f_le h2
   have ih3 := t_lt h3
   have ih4 := f_gt h4
   show W _ _ _ _ _ _ _ _ _ _ _ _ 27 _ []
   refine W.front 1 (D' := (p1, true, oStringBuilder (vr a8) (vi 1) (vi x3) f_p1_3) :: (a8, true, ar "[B" .byte (lm (cpl l2 (0 : Int32).toInt.toNat (List.replicate (((x5 + (x5 + (4 : Int32))) >>> ((1 : Int32) &&& 31)) <<< ((1 : Int32) &&& 31)).toInt.toNat (0 : Int32)) (0 : Int32).toInt.toNat x5.toInt.toNat))) :: (p3, true, ar "[B" .byte (lm l2)) :: F) rfl rfl ?_
   refine W.heap (fun _ _ H => H.sub ((((List.Sublist.refl _).cons _).cons_cons _).cons_cons _)) ?_
   exact W.mono (by decide) (by decide) (K5 a8 (((x5 + (x5 + (4 : Int32))) >>> ((1 : Int32) &&& 31)) <<< ((1 : Int32) &&& 31)) (cpl l2 (0 : Int32).toInt.toNat (List.replicate (((x5 + (x5 + (4 : Int32))) >>> ((1 : Int32) &&& 31)) <<< ((1 : Int32) &&& 31)).toInt.toNat (0 : Int32)) (0 : Int32).toInt.toNat x5.toInt.toNat) (by have := q4; have := a_add x5 (4 : Int32); have := a_add x5 (x5 + (4 : Int32)); have := q1; have := ashr_1 (x5 + (x5 + (4 : Int32))); have := ashl_1 ((x5 + (x5 + (4 : Int32))) >>> ((1 : Int32) &&& 31)); have := ashr_1 x5; have := q0; have := a_add x3 x2; have := a_sub (x3 + x2) (x5 >>> ((1 : Int32) &&& 31)); have := ashl_1 (x3 + x2); have := a_sub ((x3 + x2) <<< ((1 : Int32) &&& 31)) x5; have := a_add x1 x2; have := q3; omega) hl9 (by have := a_add x3 x2; have := q4; have := a_add x5 (4 : Int32); have := a_add x5 (x5 + (4 : Int32)); have := q1; have := ashr_1 (x5 + (x5 + (4 : Int32))); have := ashl_1 ((x5 + (x5 + (4 : Int32))) >>> ((1 : Int32) &&& 31)); have := ashr_1 (((x5 + (x5 + (4 : Int32))) >>> ((1 : Int32) &&& 31)) <<< ((1 : Int32) &&& 31)); have := a_add x1 x2; have := q3; have := ashr_1 x5; have := q0; have := a_sub (x3 + x2) (x5 >>> ((1 : Int32) &&& 31)); have := ashl_1 (x3 + x2); have := a_sub ((x3 + x2) <<< ((1 : Int32) &&& 31)) x5; omega) (fun i hi => dc_cplI (by have := q4; have := a_add x5 (4 : Int32); have := a_add x5 (x5 + (4 : Int32)); have := q1; have := ashr_1 (x5 + (x5 + (4 : Int32))); have := ashl_1 ((x5 + (x5 + (4 : Int32))) >>> ((1 : Int32) &&& 31)); have := ashr_1 x5; have := q0; have := a_add x3 x2; have := a_sub (x3 + x2) (x5 >>> ((1 : Int32) &&& 31)); have := ashl_1 (x3 + x2); have := a_sub ((x3 + x2) <<< ((1 : Int32) &&& 31)) x5; have := a_add x1 x2; have := q3; omega) (by have := hl_l2; have := q4; have := a_add x5 (4 : Int32); have := a_add x5 (x5 + (4 : Int32)); have := q1; have := ashr_1 (x5 + (x5 + (4 : Int32))); have := ashl_1 ((x5 + (x5 + (4 : Int32))) >>> ((1 : Int32) &&& 31)); have := ashr_1 x5; have := q0; have := a_add x3 x2; have := a_sub (x3 + x2) (x5 >>> ((1 : Int32) &&& 31)); have := ashl_1 (x3 + x2); have := a_sub ((x3 + x2) <<< ((1 : Int32) &&& 31)) x5; have := a_add x1 x2; have := q3; omega) (by have := len_rep (z := (((x5 + (x5 + (4 : Int32))) >>> ((1 : Int32) &&& 31)) <<< ((1 : Int32) &&& 31))) (by have := q4; have := a_add x5 (4 : Int32); have := a_add x5 (x5 + (4 : Int32)); have := q1; have := ashr_1 (x5 + (x5 + (4 : Int32))); have := ashl_1 ((x5 + (x5 + (4 : Int32))) >>> ((1 : Int32) &&& 31)); have := ashr_1 x5; have := q0; have := a_add x3 x2; have := a_sub (x3 + x2) (x5 >>> ((1 : Int32) &&& 31)); have := ashl_1 (x3 + x2); have := a_sub ((x3 + x2) <<< ((1 : Int32) &&& 31)) x5; have := a_add x1 x2; have := q3; omega); have := q4; have := a_add x5 (4 : Int32); have := a_add x5 (x5 + (4 : Int32)); have := q1; have := ashr_1 (x5 + (x5 + (4 : Int32))); have := ashl_1 ((x5 + (x5 + (4 : Int32))) >>> ((1 : Int32) &&& 31)); have := ashr_1 x5; have := q0; have := a_add x3 x2; have := a_sub (x3 + x2) (x5 >>> ((1 : Int32) &&& 31)); have := ashl_1 (x3 + x2); have := a_sub ((x3 + x2) <<< ((1 : Int32) &&& 31)) x5; have := a_add x1 x2; have := q3; omega)))
  ·
   have ih5 := f_le h5
   have ih6 := f_lt h6
   have ih7 := f_gt h7
   show W _ _ _ _ _ _ _ _ _ _ _ _ 27 _ []
   refine W.front 1 (D' := (p1, true, oStringBuilder (vr a10) (vi 1) (vi x3) f_p1_3) :: (a10, true, ar "[B" .byte (lm (cpl l2 (0 : Int32).toInt.toNat (List.replicate (((x5 + (((x3 + x2) <<< ((1 : Int32) &&& 31)) - x5)) >>> ((1 : Int32) &&& 31)) <<< ((1 : Int32) &&& 31)).toInt.toNat (0 : Int32)) (0 : Int32).toInt.toNat x5.toInt.toNat))) :: (p3, true, ar "[B" .byte (lm l2)) :: F) rfl rfl ?_
   refine W.heap (fun _ _ H => H.sub ((((List.Sublist.refl _).cons _).cons_cons _).cons_cons _)) ?_
   exact W.mono (by decide) (by decide) (K5 a10 (((x5 + (((x3 + x2) <<< ((1 : Int32) &&& 31)) - x5)) >>> ((1 : Int32) &&& 31)) <<< ((1 : Int32) &&& 31)) (cpl l2 (0 : Int32).toInt.toNat (List.replicate (((x5 + (((x3 + x2) <<< ((1 : Int32) &&& 31)) - x5)) >>> ((1 : Int32) &&& 31)) <<< ((1 : Int32) &&& 31)).toInt.toNat (0 : Int32)) (0 : Int32).toInt.toNat x5.toInt.toNat) (by have := a_add x3 x2; have := q1; have := ashl_1 (x3 + x2); have := a_sub ((x3 + x2) <<< ((1 : Int32) &&& 31)) x5; have := a_add x5 (((x3 + x2) <<< ((1 : Int32) &&& 31)) - x5); have := ashr_1 (x5 + (((x3 + x2) <<< ((1 : Int32) &&& 31)) - x5)); have := ashl_1 ((x5 + (((x3 + x2) <<< ((1 : Int32) &&& 31)) - x5)) >>> ((1 : Int32) &&& 31)); have := a_add x1 x2; have := q3; have := ashr_1 x5; have := q0; have := a_sub (x3 + x2) (x5 >>> ((1 : Int32) &&& 31)); have := q4; have := a_add x5 (4 : Int32); omega) hl11 (by have := a_add x3 x2; have := q1; have := ashl_1 (x3 + x2); have := a_sub ((x3 + x2) <<< ((1 : Int32) &&& 31)) x5; have := a_add x5 (((x3 + x2) <<< ((1 : Int32) &&& 31)) - x5); have := ashr_1 (x5 + (((x3 + x2) <<< ((1 : Int32) &&& 31)) - x5)); have := ashl_1 ((x5 + (((x3 + x2) <<< ((1 : Int32) &&& 31)) - x5)) >>> ((1 : Int32) &&& 31)); have := ashr_1 (((x5 + (((x3 + x2) <<< ((1 : Int32) &&& 31)) - x5)) >>> ((1 : Int32) &&& 31)) <<< ((1 : Int32) &&& 31)); have := a_add x1 x2; have := q3; have := ashr_1 x5; have := q0; have := a_sub (x3 + x2) (x5 >>> ((1 : Int32) &&& 31)); have := q4; have := a_add x5 (4 : Int32); omega) (fun i hi => dc_cplI (by have := a_add x3 x2; have := q1; have := ashl_1 (x3 + x2); have := a_sub ((x3 + x2) <<< ((1 : Int32) &&& 31)) x5; have := a_add x5 (((x3 + x2) <<< ((1 : Int32) &&& 31)) - x5); have := ashr_1 (x5 + (((x3 + x2) <<< ((1 : Int32) &&& 31)) - x5)); have := ashl_1 ((x5 + (((x3 + x2) <<< ((1 : Int32) &&& 31)) - x5)) >>> ((1 : Int32) &&& 31)); have := ashr_1 x5; have := q0; have := a_add x1 x2; have := q3; have := a_sub (x3 + x2) (x5 >>> ((1 : Int32) &&& 31)); have := q4; have := a_add x5 (4 : Int32); omega) (by have := hl_l2; have := a_add x3 x2; have := q1; have := ashl_1 (x3 + x2); have := a_sub ((x3 + x2) <<< ((1 : Int32) &&& 31)) x5; have := a_add x5 (((x3 + x2) <<< ((1 : Int32) &&& 31)) - x5); have := ashr_1 (x5 + (((x3 + x2) <<< ((1 : Int32) &&& 31)) - x5)); have := ashl_1 ((x5 + (((x3 + x2) <<< ((1 : Int32) &&& 31)) - x5)) >>> ((1 : Int32) &&& 31)); have := ashr_1 x5; have := q0; have := a_add x1 x2; have := q3; have := a_sub (x3 + x2) (x5 >>> ((1 : Int32) &&& 31)); have := q4; have := a_add x5 (4 : Int32); omega) (by have := len_rep (z := (((x5 + (((x3 + x2) <<< ((1 : Int32) &&& 31)) - x5)) >>> ((1 : Int32) &&& 31)) <<< ((1 : Int32) &&& 31))) (by have := a_add x3 x2; have := q1; have := ashl_1 (x3 + x2); have := a_sub ((x3 + x2) <<< ((1 : Int32) &&& 31)) x5; have := a_add x5 (((x3 + x2) <<< ((1 : Int32) &&& 31)) - x5); have := ashr_1 (x5 + (((x3 + x2) <<< ((1 : Int32) &&& 31)) - x5)); have := ashl_1 ((x5 + (((x3 + x2) <<< ((1 : Int32) &&& 31)) - x5)) >>> ((1 : Int32) &&& 31)); have := ashr_1 x5; have := q0; have := a_add x1 x2; have := q3; have := a_sub (x3 + x2) (x5 >>> ((1 : Int32) &&& 31)); have := q4; have := a_add x5 (4 : Int32); omega); have := a_add x3 x2; have := q1; have := ashl_1 (x3 + x2); have := a_sub ((x3 + x2) <<< ((1 : Int32) &&& 31)) x5; have := a_add x5 (((x3 + x2) <<< ((1 : Int32) &&& 31)) - x5); have := ashr_1 (x5 + (((x3 + x2) <<< ((1 : Int32) &&& 31)) - x5)); have := ashl_1 ((x5 + (((x3 + x2) <<< ((1 : Int32) &&& 31)) - x5)) >>> ((1 : Int32) &&& 31)); have := ashr_1 x5; have := q0; have := a_add x1 x2; have := q3; have := a_sub (x3 + x2) (x5 >>> ((1 : Int32) &&& 31)); have := q4; have := a_add x5 (4 : Int32); omega)))
theorem c90_append {Z a0} (hw : HW a0 Z) (hs : SF Z) {p1 p2 p3 : Addr} {x1 : Int32} (hx1 : 0 ≤ x1.toInt ∧ x1.toInt ≤ 7) {x2 : Int32} (hx2 : 0 ≤ x2.toInt ∧ x2.toInt ≤ 7) {x3 : Int32} (hx3 : 0 ≤ x3.toInt ∧ x3.toInt ≤ 7) {x5 : Int32} (hx5 : 0 ≤ x5.toInt ∧ x5.toInt ≤ 63) {l1 : List Int32} (hl_l1 : (l1.length : Int) = (3 : Int32).toInt) (hb_l1 : ∀ x ∈ l1, 0 ≤ x.toInt ∧ x.toInt ≤ 65535) {l2 : List Int32} (hl_l2 : (l2.length : Int) = x5.toInt) (hr0 : (x1 + x2).toInt ≤ (3 : Int32).toInt) (hr1 : x3.toInt ≤ (x5 >>> ((1 : Int32) &&& 31)).toInt) {f_p1_3 : Value} {w_p2 : Bool} {ad_p2 : String} {F : List Ent} (mp2 : (p2, w_p2, ar ad_p2 .char (lm l1)) ∈ F) : Con Z EL y35 y35b 4 y35r (rmm 6 1 255 95) [(vr p1), (vr p2), (vi x1), (vi x2)] ((p3, true, ar "[B" .byte (lm l2)) :: (p1, true, oStringBuilder (vr p3) (vi 1) (vi x3) f_p1_3) :: F) (fun v D' => (∃ a1 : Addr, ∃ g2 : Int32, ∃ gl4 : List Int32, (-64 ≤ g2.toInt ∧ g2.toInt ≤ 130) ∧ (x3 + x2).toInt ≤ (g2 >>> ((1 : Int32) &&& 31)).toInt ∧ (gl4.length : Int) = g2.toInt ∧ App 1 l2 x3.toInt.toNat 1 gl4 l1 x1.toInt.toNat x2.toInt.toNat ∧ v = some (vr p1) ∧ (a1, true, ar "[B" .byte (lm gl4)) :: (p1, true, oStringBuilder (vr a1) (vi 1) (vi (x3 + x2)) f_p1_3) :: F = D')) := by
  refine Con.of (ls := #[rv p1, rv p2, iv x1, iv x2]) (by decide +kernel) rfl ?_
  refine W.aloadN d12_0 rfl rfl ?_
  refine W.aloadN d12_1 rfl rfl ?_
  refine W.iloadN d12_2 rfl ?_
  refine W.iloadN d12_3 rfl ?_
  refine W.callUp (as := [(vr p2), (vi x1), (vi x2)]) 0 [] d12_4 (wq hw 109 rfl) (same_self (by rfl) (by decide) (wq hw 110 rfl) (wq hw 123 rfl) (wq hw 125 rfl)) (wq hw 110 rfl) (wq hw 111 rfl) (by decide) (wq hw 96 rfl) (wq hw 113 rfl) (Hp.ins m1) (c91_append hw hs (hx1 := hx1) (hx2 := hx2) (hx3 := hx3) (hx5 := hx5) (hr0 := by have := a_add x1 x2; have := q3; omega) (hr1 := by have := q1; have := ashr_1 x5; omega) (l1 := l1) (hl_l1 := hl_l1) (hb_l1 := hb_l1) (l2 := l2) (hl_l2 := hl_l2) (mp2 := mp2)) pd__CII_Ljava_lang_AbstractStringBuilder_ rfl rfl rfl rfl (by decide) (fun v D' h => ?_)
  obtain ⟨a1, g2, gl4, hg2, hf3, hgl4, hp5, rfl, rfl⟩ := h
  show W _ _ _ _ _ _ _ _ _ _ _ _ 7 _ [(vr p1)]
  refine W.popv d12_7 rfl ?_
  refine W.aloadN d12_8 rfl rfl ?_
  exact W.areturn d12_9 rfl rfl rfl (by decide) ⟨a1, g2, gl4, hg2, hf3, hgl4, hp5, rfl, rfl⟩
theorem c89_appendText {Z a0} (hw : HW a0 Z) (hs : SF Z) {p1 p2 p8 p12 : Addr} {x1 : Int32} (hx1 : 0 ≤ x1.toInt ∧ x1.toInt ≤ 7) {x2 : Int32} (hx2 : 0 ≤ x2.toInt ∧ x2.toInt ≤ 7) {x3 : Int32} (hx3 : 0 ≤ x3.toInt ∧ x3.toInt ≤ 7) {x4 : Int32} (hx4 : 0 ≤ x4.toInt ∧ x4.toInt ≤ 63) {l1 : List Int32} (hl_l1 : (l1.length : Int) = (3 : Int32).toInt) (hb_l1 : ∀ x ∈ l1, 0 ≤ x.toInt ∧ x.toInt ≤ 65535) {l2 : List Int32} (hl_l2 : (l2.length : Int) = x4.toInt) (hr0 : (x1 + x2).toInt ≤ (3 : Int32).toInt) (hr1 : x3.toInt ≤ (x4 >>> ((1 : Int32) &&& 31)).toInt) {f_p8_3 f_p1_0 f_p1_1 f_p1_2 f_p1_3 f_p1_4 f_p1_5 f_p1_6 : Value} {w_p1 : Bool} {w_p2 : Bool} {ad_p2 : String} {F : List Ent} (mp1 : (p1, w_p1, oXmlElement f_p1_0 f_p1_1 f_p1_2 f_p1_3 f_p1_4 f_p1_5 f_p1_6 (vr p8)) ∈ F) (mp2 : (p2, w_p2, ar ad_p2 .char (lm l1)) ∈ F) : Con Z EL y36 y36b 4 y36r (rmm 7 1 255 110) [(vr p1), (vr p2), (vi x1), (vi x2)] ((p12, true, ar "[B" .byte (lm l2)) :: (p8, true, oStringBuilder (vr p12) (vi 1) (vi x3) f_p8_3) :: F) (fun v D' => (∃ a1 : Addr, ∃ g2 : Int32, ∃ gl4 : List Int32, (-64 ≤ g2.toInt ∧ g2.toInt ≤ 130) ∧ (x3 + x2).toInt ≤ (g2 >>> ((1 : Int32) &&& 31)).toInt ∧ (gl4.length : Int) = g2.toInt ∧ App 1 l2 x3.toInt.toNat 1 gl4 l1 x1.toInt.toNat x2.toInt.toNat ∧ v = none ∧ (a1, true, ar "[B" .byte (lm gl4)) :: (p8, true, oStringBuilder (vr a1) (vi 1) (vi (x3 + x2)) f_p8_3) :: F = D')) := by
  refine Con.of (ls := #[rv p1, rv p2, iv x1, iv x2]) (by decide +kernel) rfl ?_
  refine W.aloadN d9_0 rfl rfl ?_
  refine W.getf d9_1 (wq hw 65 rfl) Via.refl (mS (mS mp1)) m7 ?_
  refine W.ifnonnullY 19 d9_4 (by decide) ?_
  refine W.aloadN d9_19 rfl rfl ?_
  refine W.getf d9_20 (wq hw 65 rfl) Via.refl (mS (mS mp1)) m7 ?_
  refine W.aloadN d9_23 rfl rfl ?_
  refine W.iloadN d9_24 rfl ?_
  refine W.iloadN d9_25 rfl ?_
  refine W.callV (as := [(vr p2), (vi x1), (vi x2)]) 0 [] d9_26 (wq hw 104 rfl) (wq hw 105 rfl) (wq hw 107 rfl) (wq hw 107 rfl) (wq hw 106 rfl) (wq hw 88 rfl) (wq hw 108 rfl) (Hp.exa m1) (c90_append hw hs (hx1 := hx1) (hx2 := hx2) (hx3 := hx3) (hx5 := hx4) (hr0 := by have := a_add x1 x2; have := q3; omega) (hr1 := by have := q1; have := ashr_1 x4; omega) (l1 := l1) (hl_l1 := hl_l1) (hb_l1 := hb_l1) (l2 := l2) (hl_l2 := hl_l2) (mp2 := mp2)) (by decide) pd__CII_Ljava_lang_StringBuilder_ rfl rfl rfl rfl (by decide) (fun v D' h => ?_)
  obtain ⟨a1, g2, gl4, hg2, hf3, hgl4, hp5, rfl, rfl⟩ := h
  show W _ _ _ _ _ _ _ _ _ _ _ _ 29 _ [(vr p8)]
  refine W.popv d9_29 rfl ?_
  exact W.return_ d9_30 rfl (by decide) ⟨a1, g2, gl4, hg2, hf3, hgl4, hp5, rfl, rfl⟩
set_option maxHeartbeats 4000000 in
theorem lawW {Z a0} (hw : HW a0 Z) (hs : SF Z) (z0 : Int32) (z1 : Int32) (z2 : Int32) (z3 : Int32) (z4 : Int32) : Con Z EL x code maxLocals ret room_1 [(vi z0), (vi z1), (vi z2), (vi z3), (vi z4)] ([]) (fun v _ => v = some (.int 1)) := by
  refine Con.of (ls := #[iv z0, iv z1, iv z2, iv z3, iv z4, uu, uu, uu, uu, uu, uu, uu, uu, uu, uu, uu]) (by decide +kernel) rfl ?_
  show W Z EL _ "com/example/montaje/montaje/xml/XmlElementAppendTextPinLaw" "law" _ _ _ _ _ _ _ _ _ _
  have K10 : ∀ (a2 : Addr) (g3 : Int32) (g4 : Int32) (g5 : Int32) (a6 : Addr) (g7 : Int32) (g8 : Int32) (g9 : Int32), 0 ≤ g3.toInt ∧ g3.toInt ≤ 65535 → 0 ≤ g4.toInt ∧ g4.toInt ≤ 65535 → 0 ≤ g5.toInt ∧ g5.toInt ≤ 65535 → 0 ≤ g7.toInt ∧ g7.toInt ≤ 65535 → 0 ≤ g8.toInt ∧ g8.toInt ≤ 65535 → 0 ≤ g9.toInt ∧ g9.toInt ≤ 65535 → W Z EL room_1 "com/example/montaje/montaje/xml/XmlElementAppendTextPinLaw" "law" code maxLocals ret (fun v _ => v = some (.int 1)) ((a2, true, ar "[C" .char [(vi g3), (vi g4), (vi g5)]) :: (a6, true, ar "[C" .char [(vi g7), (vi g8), (vi g9)]) :: []) 2 6 49 #[iv z0, iv z1, iv z2, iv z3, iv z4, rv a2, rv a6, uu, uu, uu, uu, uu, uu, uu, uu, uu] [] := by
   intro a2 g3 g4 g5 a6 g7 g8 g9 hg3 hg4 hg5 hg7 hg8 hg9 
   have K16 : ∀ (g12 : Int32) (g13 : Int32) (g14 : Int32) (g15 : Int32), 0 ≤ g12.toInt ∧ g12.toInt ≤ 3 → 0 ≤ g13.toInt ∧ g13.toInt ≤ 3 → 0 ≤ g14.toInt ∧ g14.toInt ≤ 3 → 0 ≤ g15.toInt ∧ g15.toInt ≤ 3 → ((g12 + g13).toInt ≤ (3 : Int32).toInt) → ((g14 + g15).toInt ≤ (3 : Int32).toInt) → W Z EL room_1 "com/example/montaje/montaje/xml/XmlElementAppendTextPinLaw" "law" code maxLocals ret (fun v _ => v = some (.int 1)) ((a2, true, ar "[C" .char [(vi g3), (vi g4), (vi g5)]) :: (a6, true, ar "[C" .char [(vi g7), (vi g8), (vi g9)]) :: []) 2 6 89 #[iv z0, iv z1, iv z2, iv z3, iv z4, rv a2, rv a6, iv g12, iv g13, iv g14, iv g15, uu, uu, uu, uu, uu] [] := by
    intro g12 g13 g14 g15 hg12 hg13 hg14 hg15 hS1 hS2
    refine W.iconst (3) at_89 (by decide) ?_
    refine W.newarr 3 (ad := "[C") (ty := .char) at_90 rfl (wq hw 0 rfl) ix3 rfl (by decide) (by decide) (fun a17 => ?_)
    show W _ _ _ _ _ _ _ _ _ _ _ _ 92 _ [(vr a17)]
    refine W.astore (ls' := #[iv z0, iv z1, iv z2, iv z3, iv z4, rv a2, rv a6, iv g12, iv g13, iv g14, iv g15, rv a17, uu, uu, uu, uu]) at_92 rfl rfl ?_
    refine W.aload 11 at_94 rfl rfl ?_
    refine W.iconst (0) at_96 (by decide) ?_
    refine W.aload 5 at_97 rfl rfl ?_
    refine W.iconst (0) at_99 (by decide) ?_
    refine W.caload 0 at_100 m1 ix0 rfl ?_
    refine W.castore (D' := (a17, true, ar "[C" .char [(vi g3), (vi 0), (vi 0)]) :: (a2, true, ar "[C" .char [(vi g3), (vi g4), (vi g5)]) :: (a6, true, ar "[C" .char [(vi g7), (vi g8), (vi g9)]) :: []) 0 0 at_101 rfl ix0 (Nat.le_of_ble_eq_true rfl) (z_narC hg3) rfl ?_
    refine W.aload 11 at_102 rfl rfl ?_
    refine W.iconst (1) at_104 (by decide) ?_
    refine W.aload 5 at_105 rfl rfl ?_
    refine W.iconst (1) at_107 (by decide) ?_
    refine W.caload 1 at_108 m1 ix1 rfl ?_
    refine W.castore (D' := (a17, true, ar "[C" .char [(vi g3), (vi g4), (vi 0)]) :: (a2, true, ar "[C" .char [(vi g3), (vi g4), (vi g5)]) :: (a6, true, ar "[C" .char [(vi g7), (vi g8), (vi g9)]) :: []) 0 1 at_109 rfl ix1 (Nat.le_of_ble_eq_true rfl) (z_narC hg4) rfl ?_
    refine W.aload 11 at_110 rfl rfl ?_
    refine W.iconst (2) at_112 (by decide) ?_
    refine W.aload 5 at_113 rfl rfl ?_
    refine W.iconst (2) at_115 (by decide) ?_
    refine W.caload 2 at_116 m1 ix2 rfl ?_
    refine W.castore (D' := (a17, true, ar "[C" .char [(vi g3), (vi g4), (vi g5)]) :: (a2, true, ar "[C" .char [(vi g3), (vi g4), (vi g5)]) :: (a6, true, ar "[C" .char [(vi g7), (vi g8), (vi g9)]) :: []) 0 2 at_117 rfl ix2 (Nat.le_of_ble_eq_true rfl) (z_narC hg5) rfl ?_
    refine W.new at_118 (wq hw 2 rfl) (wq hw 3 rfl) (wq hw 4 rfl) (laXmlElement hw) (by decide) (by decide) (fun a18 => ?_)
    show W _ _ _ _ _ _ _ _ _ _ _ _ 121 _ [(vr a18)]
    refine W.dup at_121 rfl ?_
    refine W.ldcT 0 (vs := []) rfl at_122 (wq hw 5 rfl) (wS hw) m1 tx_ (by decide) (by decide) (by decide) (fun a19 a20 => ?_)
    show W _ _ _ _ _ _ _ _ _ _ _ _ 124 _ [(vr a19), (vr a18), (vr a18)]
    refine W.ldcT 4 (vs := [(vi 120)]) rfl at_124 (wq hw 13 rfl) (wS hw) m2 tx_78 (by decide) (by decide) (by decide) (fun a21 a22 => ?_)
    show W _ _ _ _ _ _ _ _ _ _ _ _ 126 _ [(vr a21), (vr a19), (vr a18), (vr a18)]
    refine W.ldcT 4 (vs := [(vi 120)]) rfl at_126 (wq hw 13 rfl) (wS hw) m2 tx_78 (by decide) (by decide) (by decide) (fun a23 a24 => ?_)
    show W _ _ _ _ _ _ _ _ _ _ _ _ 128 _ [(vr a23), (vr a21), (vr a19), (vr a18), (vr a18)]
    refine W.iconst (1) at_128 (by decide) ?_
    refine W.aconstNull at_129 ?_
    refine W.new at_130 (wq hw 14 rfl) (wq hw 15 rfl) (wq hw 16 rfl) (laArrayList hw) (by decide) (by decide) (fun a25 => ?_)
    show W _ _ _ _ _ _ _ _ _ _ _ _ 133 _ [(vr a25), .null, (vi 1), (vr a23), (vr a21), (vr a19), (vr a18), (vr a18)]
    refine W.dup at_133 rfl ?_
    refine W.callI (as := []) 8 [(vr a25), .null, (vi 1), (vr a23), (vr a21), (vr a19), (vr a18), (vr a18)] at_134 rfl (wq hw 17 rfl) (wq hw 18 rfl) (wq hw 16 rfl) (wq hw 19 rfl) (c1_init hw hs) (by decide) pd__V rfl rfl rfl rfl (by decide) (fun v D' h => ?_)
    obtain ⟨rfl, rfl⟩ := h
    show W _ _ _ _ _ _ _ _ _ _ _ _ 137 _ [(vr a25), .null, (vi 1), (vr a23), (vr a21), (vr a19), (vr a18), (vr a18)]
    refine W.front 7 (D' := (a18, true, oXmlElement .null .null .null .null (vi 0) .null .null .null) :: (a25, true, oArrayList (vi 0) (vr (og1 Z))) :: (a23, false, oString (vr a24) (vi 0)) :: (a24, false, ar "" .byte [(vi 120)]) :: (a21, false, oString (vr a22) (vi 0)) :: (a22, false, ar "" .byte [(vi 120)]) :: (a19, false, oString (vr a20) (vi 0)) :: (a20, false, ar "" .byte []) :: (a17, true, ar "[C" .char [(vi g3), (vi g4), (vi g5)]) :: (a2, true, ar "[C" .char [(vi g3), (vi g4), (vi g5)]) :: (a6, true, ar "[C" .char [(vi g7), (vi g8), (vi g9)]) :: []) rfl rfl ?_
    refine W.callI (as := [(vr a19), (vr a21), (vr a23), (vi 1), .null, (vr a25)]) 1 [(vr a18)] at_137 rfl (wq hw 40 rfl) (wq hw 41 rfl) (wq hw 4 rfl) (wq hw 42 rfl) (c4_init hw hs) (by decide) pd_Ljava_lang_String_Ljava_lang_String_Ljava_lang_String_ILjava_util_Map_Ljava_util_List__V rfl rfl rfl rfl (by decide) (fun v D' h => ?_)
    obtain ⟨a26, rfl, rfl⟩ := h
    show W _ _ _ _ _ _ _ _ _ _ _ _ 140 _ [(vr a18)]
    refine W.astore (ls' := #[iv z0, iv z1, iv z2, iv z3, iv z4, rv a2, rv a6, iv g12, iv g13, iv g14, iv g15, rv a17, rv a18, uu, uu, uu]) at_140 rfl rfl ?_
    refine W.aload 12 at_142 rfl rfl ?_
    refine W.callV (as := []) 0 [] at_144 (wq hw 60 rfl) (wq hw 61 rfl) (wq hw 63 rfl) (wq hw 63 rfl) (wq hw 62 rfl) (wq hw 4 rfl) (wq hw 64 rfl) (Hp.exa m1) (c5_text hw hs (mp1 := m1)) (by decide) pd__Ljava_lang_String_ rfl rfl rfl rfl (by decide) (fun v D' h => ?_)
    obtain ⟨a27, a28, rfl, rfl⟩ := h
    show W _ _ _ _ _ _ _ _ _ _ _ _ 147 _ [(vr a27)]
    refine W.callV (as := []) 0 [] at_147 (wq hw 68 rfl) (wq hw 69 rfl) (wq hw 71 rfl) (wq hw 71 rfl) (wq hw 70 rfl) (wq hw 6 rfl) (wq hw 72 rfl) (Hp.exa m0) (c6_length hw hs (mp1 := m0) (mp2 := m1)) (by decide) pd__I rfl rfl rfl rfl (by decide) (fun v D' h => ?_)
    obtain ⟨rfl, rfl⟩ := h
    show W _ _ _ _ _ _ _ _ _ _ _ _ 150 _ [(vi 0)]
    refine W.ifN at_150 (n_ne (by decide)) ?_
    refine W.iconst (1) at_153 (by decide) ?_
    refine W.goto 158 at_154 (by decide) ?_
    refine W.istore (ls' := #[iv z0, iv z1, iv z2, iv z3, iv z4, rv a2, rv a6, iv g12, iv g13, iv g14, iv g15, rv a17, rv a18, iv 1, uu, uu]) at_158 rfl ?_
    have K38 : ∀ (a30 : Addr) (a31 : Addr) (g32 : Int32) (gl33 : List Int32) (a34 : Addr) (a35 : Addr) (g36 : Int32) (gl37 : List Int32), 0 ≤ g32.toInt ∧ g32.toInt ≤ 16 → (gl33.length : Int) = g32.toInt → 0 ≤ g36.toInt ∧ g36.toInt ≤ 16 → (gl37.length : Int) = g36.toInt → (g36.toInt = g13.toInt) → (((0 : Int32) + g13).toInt ≤ g32.toInt) → (∀ i, i < g13.toInt.toNat → dc 0 gl37 i = [g3, g4, g5].getD (g12.toInt.toNat + i) 0) → (∀ i, i < g13.toInt.toNat → dc 0 gl33 i = [g3, g4, g5].getD (g12.toInt.toNat + i) 0) → W Z EL room_1 "com/example/montaje/montaje/xml/XmlElementAppendTextPinLaw" "law" code maxLocals ret (fun v _ => v = some (.int 1)) ((a27, false, oString (vr a28) (vi 0)) :: (a28, false, ar "" .byte []) :: (a26, true, oArrayList (vi 0) (vr (og1 Z))) :: (a18, true, oXmlElement (vr a26) (vr a19) (vr a21) (vr a23) (vi 1) .null (vr a25) (vr a30)) :: (a25, true, oArrayList (vi 0) (vr (og1 Z))) :: (a23, false, oString (vr a24) (vi 0)) :: (a24, false, ar "" .byte [(vi 120)]) :: (a21, false, oString (vr a22) (vi 0)) :: (a22, false, ar "" .byte [(vi 120)]) :: (a19, false, oString (vr a20) (vi 0)) :: (a20, false, ar "" .byte []) :: (a17, true, ar "[C" .char [(vi g3), (vi g4), (vi g5)]) :: (a2, true, ar "[C" .char [(vi g3), (vi g4), (vi g5)]) :: (a6, true, ar "[C" .char [(vi g7), (vi g8), (vi g9)]) :: (a30, true, oStringBuilder (vr a31) (vi 0) (vi ((0 : Int32) + g13)) (vi 0)) :: (a31, true, ar "[B" .byte (lm gl33)) :: (a34, true, oString (vr a35) (vi 0)) :: (a35, true, ar "[B" .byte (lm gl37)) :: []) 20 1075 178 #[iv z0, iv z1, iv z2, iv z3, iv z4, rv a2, rv a6, iv g12, iv g13, iv g14, iv g15, rv a17, rv a18, iv 1, rv a34, uu] [] := by
     intro a30 a31 g32 gl33 a34 a35 g36 gl37 hg32 hgl33 hg36 hgl37 hP1 hP2 hP3 hP4
     refine W.iload at_178 rfl ?_
     refine W.ifN at_180 (n_eq (by decide)) ?_
     refine W.aload 14 at_183 rfl rfl ?_
     refine W.callV (as := []) 0 [] at_185 (wq hw 68 rfl) (wq hw 69 rfl) (wq hw 71 rfl) (wq hw 71 rfl) (wq hw 70 rfl) (wq hw 6 rfl) (wq hw 72 rfl) (Hp.exa m16) (c59_length hw hs (hx1 := (by have := a_add g12 g13; have := q3; have := q0; have := a_add (0 : Int32) g13; omega)) (l1 := gl37) (hl_l1 := hgl37) (mp1 := m16) (mp2 := m17)) (by decide) pd__I rfl rfl rfl rfl (by decide) (fun v D' h => ?_)
     obtain ⟨rfl, rfl⟩ := h
     show W _ _ _ _ _ _ _ _ _ _ _ _ 188 _ [(vi g36)]
     refine W.iload at_188 rfl ?_
     refine W.icmpN at_190 (n_ne (by have := a_add g12 g13; have := q3; have := q0; have := a_add (0 : Int32) g13; omega)) ?_
     refine W.aload 14 at_193 rfl rfl ?_
     refine W.iconst (0) at_195 (by decide) ?_
     refine W.aload 5 at_196 rfl rfl ?_
     refine W.iload at_198 rfl ?_
     refine W.iload at_200 rfl ?_
     refine W.aload 6 at_202 rfl rfl ?_
     refine W.iload at_204 rfl ?_
     refine W.iconst (0) at_206 (by decide) ?_
     refine W.callS (as := [(vr a34), (vi 0), (vr a2), (vi g12), (vi g13), (vr a6), (vi g14), (vi 0)]) 0 [] at_207 (wq hw 178 rfl) (wq hw 179 rfl) (wq hw 180 rfl) (wq hw 181 rfl) (c60_at hw hs (hx1 := (by decide)) (hx2 := (by have := a_add g12 g13; have := q3; have := q0; have := a_add (0 : Int32) g13; omega)) (hx3 := (by have := a_add g12 g13; have := q3; have := q0; have := a_add (0 : Int32) g13; omega)) (hx4 := (by have := a_add g14 g15; have := q3; omega)) (hx5 := (by decide)) (hx6 := (by have := a_add g12 g13; have := q3; have := q0; have := a_add (0 : Int32) g13; omega)) (hr0 := by have := q0; have := a_add g13 (0 : Int32); have := a_add g12 g13; have := q3; have := a_add (0 : Int32) g13; omega) (hr1 := by have := a_add g12 g13; have := q3; have := q0; have := a_add (0 : Int32) g13; omega) (hr2 := by have := q0; have := a_add g14 (0 : Int32); have := q3; have := a_add g14 g15; omega) (l1 := [g3, g4, g5]) (hl_l1 := (len_q (k := 3) rfl (by decide))) (hb_l1 := (bl3 hg3 hg4 hg5)) (l2 := [g7, g8, g9]) (hl_l2 := (len_q (k := 3) rfl (by decide))) (hb_l2 := (bl3 hg7 hg8 hg9)) (l3 := gl37) (hl_l3 := hgl37) (hA := (fun h1 => hP3 _ (by have := q0; have := a_add g13 g15; have := a_add g12 g13; have := q3; have := a_add g14 g15; have := a_add (0 : Int32) g13; omega))) (hB := (fun h1 h2 => by exfalso; have := q0; have := a_add g13 (0 : Int32); have := a_add g12 g13; have := q3; have := a_add (0 : Int32) g13; omega)) (mp3 := m13) (mp1 := m16) (mp4 := m17) (mp2 := m12)) (by decide) pd_Ljava_lang_String_I_CII_CII_Z rfl rfl rfl rfl (by decide) (fun v D' h => ?_)
     obtain ⟨rfl, rfl⟩ := h
     show W _ _ _ _ _ _ _ _ _ _ _ _ 210 _ [(vi 1)]
     refine W.ifN at_210 (n_eq (by decide)) ?_
     refine W.aload 14 at_213 rfl rfl ?_
     refine W.iconst (1) at_215 (by decide) ?_
     refine W.aload 5 at_216 rfl rfl ?_
     refine W.iload at_218 rfl ?_
     refine W.iload at_220 rfl ?_
     refine W.aload 6 at_222 rfl rfl ?_
     refine W.iload at_224 rfl ?_
     refine W.iconst (0) at_226 (by decide) ?_
     refine W.callS (as := [(vr a34), (vi 1), (vr a2), (vi g12), (vi g13), (vr a6), (vi g14), (vi 0)]) 0 [] at_227 (wq hw 178 rfl) (wq hw 179 rfl) (wq hw 180 rfl) (wq hw 181 rfl) (c60_at hw hs (hx1 := (by decide)) (hx2 := (by have := a_add g12 g13; have := q3; have := q0; have := a_add (0 : Int32) g13; omega)) (hx3 := (by have := a_add g12 g13; have := q3; have := q0; have := a_add (0 : Int32) g13; omega)) (hx4 := (by have := a_add g14 g15; have := q3; omega)) (hx5 := (by decide)) (hx6 := (by have := a_add g12 g13; have := q3; have := q0; have := a_add (0 : Int32) g13; omega)) (hr0 := by have := q0; have := a_add g13 (0 : Int32); have := a_add g12 g13; have := q3; have := a_add (0 : Int32) g13; omega) (hr1 := by have := a_add g12 g13; have := q3; have := q0; have := a_add (0 : Int32) g13; omega) (hr2 := by have := q0; have := a_add g14 (0 : Int32); have := q3; have := a_add g14 g15; omega) (l1 := [g3, g4, g5]) (hl_l1 := (len_q (k := 3) rfl (by decide))) (hb_l1 := (bl3 hg3 hg4 hg5)) (l2 := [g7, g8, g9]) (hl_l2 := (len_q (k := 3) rfl (by decide))) (hb_l2 := (bl3 hg7 hg8 hg9)) (l3 := gl37) (hl_l3 := hgl37) (hA := (fun h1 => hP3 _ (by have := q1; have := a_add g13 g15; have := q0; have := a_add g12 g13; have := q3; have := a_add g14 g15; have := a_add (0 : Int32) g13; omega))) (hB := (fun h1 h2 => by exfalso; have := q1; have := q0; have := a_add g13 (0 : Int32); have := a_add g12 g13; have := q3; have := a_add (0 : Int32) g13; omega)) (mp3 := m13) (mp1 := m16) (mp4 := m17) (mp2 := m12)) (by decide) pd_Ljava_lang_String_I_CII_CII_Z rfl rfl rfl rfl (by decide) (fun v D' h => ?_)
     obtain ⟨rfl, rfl⟩ := h
     show W _ _ _ _ _ _ _ _ _ _ _ _ 230 _ [(vi 1)]
     refine W.ifN at_230 (n_eq (by decide)) ?_
     refine W.aload 14 at_233 rfl rfl ?_
     refine W.iconst (2) at_235 (by decide) ?_
     refine W.aload 5 at_236 rfl rfl ?_
     refine W.iload at_238 rfl ?_
     refine W.iload at_240 rfl ?_
     refine W.aload 6 at_242 rfl rfl ?_
     refine W.iload at_244 rfl ?_
     refine W.iconst (0) at_246 (by decide) ?_
     refine W.callS (as := [(vr a34), (vi 2), (vr a2), (vi g12), (vi g13), (vr a6), (vi g14), (vi 0)]) 0 [] at_247 (wq hw 178 rfl) (wq hw 179 rfl) (wq hw 180 rfl) (wq hw 181 rfl) (c60_at hw hs (hx1 := (by decide)) (hx2 := (by have := a_add g12 g13; have := q3; have := q0; have := a_add (0 : Int32) g13; omega)) (hx3 := (by have := a_add g12 g13; have := q3; have := q0; have := a_add (0 : Int32) g13; omega)) (hx4 := (by have := a_add g14 g15; have := q3; omega)) (hx5 := (by decide)) (hx6 := (by have := a_add g12 g13; have := q3; have := q0; have := a_add (0 : Int32) g13; omega)) (hr0 := by have := q0; have := a_add g13 (0 : Int32); have := a_add g12 g13; have := q3; have := a_add (0 : Int32) g13; omega) (hr1 := by have := a_add g12 g13; have := q3; have := q0; have := a_add (0 : Int32) g13; omega) (hr2 := by have := q0; have := a_add g14 (0 : Int32); have := q3; have := a_add g14 g15; omega) (l1 := [g3, g4, g5]) (hl_l1 := (len_q (k := 3) rfl (by decide))) (hb_l1 := (bl3 hg3 hg4 hg5)) (l2 := [g7, g8, g9]) (hl_l2 := (len_q (k := 3) rfl (by decide))) (hb_l2 := (bl3 hg7 hg8 hg9)) (l3 := gl37) (hl_l3 := hgl37) (hA := (fun h1 => hP3 _ (by have := q2; have := a_add g13 g15; have := q0; have := a_add g12 g13; have := q3; have := a_add g14 g15; have := a_add (0 : Int32) g13; omega))) (hB := (fun h1 h2 => by exfalso; have := q2; have := q0; have := a_add g13 (0 : Int32); have := a_add g12 g13; have := q3; have := a_add (0 : Int32) g13; omega)) (mp3 := m13) (mp1 := m16) (mp4 := m17) (mp2 := m12)) (by decide) pd_Ljava_lang_String_I_CII_CII_Z rfl rfl rfl rfl (by decide) (fun v D' h => ?_)
     obtain ⟨rfl, rfl⟩ := h
     show W _ _ _ _ _ _ _ _ _ _ _ _ 250 _ [(vi 1)]
     refine W.ifN at_250 (n_eq (by decide)) ?_
     refine W.iconst (1) at_253 (by decide) ?_
     refine W.goto 258 at_254 (by decide) ?_
     refine W.istore (ls' := #[iv z0, iv z1, iv z2, iv z3, iv z4, rv a2, rv a6, iv g12, iv g13, iv g14, iv g15, rv a17, rv a18, iv 1, rv a34, uu]) at_258 rfl ?_
     refine W.aload 11 at_260 rfl rfl ?_
     refine W.iconst (0) at_262 (by decide) ?_
     refine W.aload 6 at_263 rfl rfl ?_
     refine W.iconst (0) at_265 (by decide) ?_
     refine W.caload 0 at_266 m13 ix0 rfl ?_
     refine W.castore (D' := (a27, false, oString (vr a28) (vi 0)) :: (a28, false, ar "" .byte []) :: (a26, true, oArrayList (vi 0) (vr (og1 Z))) :: (a18, true, oXmlElement (vr a26) (vr a19) (vr a21) (vr a23) (vi 1) .null (vr a25) (vr a30)) :: (a25, true, oArrayList (vi 0) (vr (og1 Z))) :: (a23, false, oString (vr a24) (vi 0)) :: (a24, false, ar "" .byte [(vi 120)]) :: (a21, false, oString (vr a22) (vi 0)) :: (a22, false, ar "" .byte [(vi 120)]) :: (a19, false, oString (vr a20) (vi 0)) :: (a20, false, ar "" .byte []) :: (a17, true, ar "[C" .char [(vi g7), (vi g4), (vi g5)]) :: (a2, true, ar "[C" .char [(vi g3), (vi g4), (vi g5)]) :: (a6, true, ar "[C" .char [(vi g7), (vi g8), (vi g9)]) :: (a30, true, oStringBuilder (vr a31) (vi 0) (vi ((0 : Int32) + g13)) (vi 0)) :: (a31, true, ar "[B" .byte (lm gl33)) :: (a34, true, oString (vr a35) (vi 0)) :: (a35, true, ar "[B" .byte (lm gl37)) :: []) 11 0 at_267 rfl ix0 (Nat.le_of_ble_eq_true rfl) (z_narC hg7) rfl ?_
     refine W.aload 11 at_268 rfl rfl ?_
     refine W.iconst (1) at_270 (by decide) ?_
     refine W.aload 6 at_271 rfl rfl ?_
     refine W.iconst (1) at_273 (by decide) ?_
     refine W.caload 1 at_274 m13 ix1 rfl ?_
     refine W.castore (D' := (a27, false, oString (vr a28) (vi 0)) :: (a28, false, ar "" .byte []) :: (a26, true, oArrayList (vi 0) (vr (og1 Z))) :: (a18, true, oXmlElement (vr a26) (vr a19) (vr a21) (vr a23) (vi 1) .null (vr a25) (vr a30)) :: (a25, true, oArrayList (vi 0) (vr (og1 Z))) :: (a23, false, oString (vr a24) (vi 0)) :: (a24, false, ar "" .byte [(vi 120)]) :: (a21, false, oString (vr a22) (vi 0)) :: (a22, false, ar "" .byte [(vi 120)]) :: (a19, false, oString (vr a20) (vi 0)) :: (a20, false, ar "" .byte []) :: (a17, true, ar "[C" .char [(vi g7), (vi g8), (vi g5)]) :: (a2, true, ar "[C" .char [(vi g3), (vi g4), (vi g5)]) :: (a6, true, ar "[C" .char [(vi g7), (vi g8), (vi g9)]) :: (a30, true, oStringBuilder (vr a31) (vi 0) (vi ((0 : Int32) + g13)) (vi 0)) :: (a31, true, ar "[B" .byte (lm gl33)) :: (a34, true, oString (vr a35) (vi 0)) :: (a35, true, ar "[B" .byte (lm gl37)) :: []) 11 1 at_275 rfl ix1 (Nat.le_of_ble_eq_true rfl) (z_narC hg8) rfl ?_
     refine W.aload 11 at_276 rfl rfl ?_
     refine W.iconst (2) at_278 (by decide) ?_
     refine W.aload 6 at_279 rfl rfl ?_
     refine W.iconst (2) at_281 (by decide) ?_
     refine W.caload 2 at_282 m13 ix2 rfl ?_
     refine W.castore (D' := (a27, false, oString (vr a28) (vi 0)) :: (a28, false, ar "" .byte []) :: (a26, true, oArrayList (vi 0) (vr (og1 Z))) :: (a18, true, oXmlElement (vr a26) (vr a19) (vr a21) (vr a23) (vi 1) .null (vr a25) (vr a30)) :: (a25, true, oArrayList (vi 0) (vr (og1 Z))) :: (a23, false, oString (vr a24) (vi 0)) :: (a24, false, ar "" .byte [(vi 120)]) :: (a21, false, oString (vr a22) (vi 0)) :: (a22, false, ar "" .byte [(vi 120)]) :: (a19, false, oString (vr a20) (vi 0)) :: (a20, false, ar "" .byte []) :: (a17, true, ar "[C" .char [(vi g7), (vi g8), (vi g9)]) :: (a2, true, ar "[C" .char [(vi g3), (vi g4), (vi g5)]) :: (a6, true, ar "[C" .char [(vi g7), (vi g8), (vi g9)]) :: (a30, true, oStringBuilder (vr a31) (vi 0) (vi ((0 : Int32) + g13)) (vi 0)) :: (a31, true, ar "[B" .byte (lm gl33)) :: (a34, true, oString (vr a35) (vi 0)) :: (a35, true, ar "[B" .byte (lm gl37)) :: []) 11 2 at_283 rfl ix2 (Nat.le_of_ble_eq_true rfl) (z_narC hg9) rfl ?_
     have K47 : ∀ (a40 : Addr) (g41 : Int32) (gl42 : List Int32) (a43 : Addr) (a44 : Addr) (g45 : Int32) (gl46 : List Int32), -31 ≤ g41.toInt ∧ g41.toInt ≤ 64 → (gl42.length : Int) = g41.toInt → -31 ≤ g45.toInt ∧ g45.toInt ≤ 64 → (gl46.length : Int) = g45.toInt → (g45.toInt = (g13 + g15).toInt) → (∀ i, i < g13.toInt.toNat → dc 0 gl46 i = [g3, g4, g5].getD (g12.toInt.toNat + i) 0) → (∀ i, i < g15.toInt.toNat → dc 0 gl46 (g13.toInt.toNat + i) = [g7, g8, g9].getD (g14.toInt.toNat + i) 0) → W Z EL room_1 "com/example/montaje/montaje/xml/XmlElementAppendTextPinLaw" "law" code maxLocals ret (fun v _ => v = some (.int 1)) ((a27, false, oString (vr a28) (vi 0)) :: (a28, false, ar "" .byte []) :: (a26, true, oArrayList (vi 0) (vr (og1 Z))) :: (a18, true, oXmlElement (vr a26) (vr a19) (vr a21) (vr a23) (vi 1) .null (vr a25) (vr a30)) :: (a25, true, oArrayList (vi 0) (vr (og1 Z))) :: (a23, false, oString (vr a24) (vi 0)) :: (a24, false, ar "" .byte [(vi 120)]) :: (a21, false, oString (vr a22) (vi 0)) :: (a22, false, ar "" .byte [(vi 120)]) :: (a19, false, oString (vr a20) (vi 0)) :: (a20, false, ar "" .byte []) :: (a17, true, ar "[C" .char [(vi g7), (vi g8), (vi g9)]) :: (a2, true, ar "[C" .char [(vi g3), (vi g4), (vi g5)]) :: (a6, true, ar "[C" .char [(vi g7), (vi g8), (vi g9)]) :: (a30, true, oStringBuilder (vr a40) (vi 0) (vi (((0 : Int32) + g13) + g15)) (vi 0)) :: (a34, true, oString (vr a35) (vi 0)) :: (a35, true, ar "[B" .byte (lm gl37)) :: (a40, true, ar "[B" .byte (lm gl42)) :: (a43, true, oString (vr a44) (vi 0)) :: (a44, true, ar "[B" .byte (lm gl46)) :: []) 24 1844 302 #[iv z0, iv z1, iv z2, iv z3, iv z4, rv a2, rv a6, iv g12, iv g13, iv g14, iv g15, rv a17, rv a18, iv 1, rv a34, rv a43] [] := by
      intro a40 g41 gl42 a43 a44 g45 gl46 hg41 hgl42 hg45 hgl46 hQ1 hQ3 hQ4
      refine W.iload at_302 rfl ?_
      refine W.ifN at_304 (n_eq (by decide)) ?_
      refine W.aload 15 at_307 rfl rfl ?_
      refine W.callV (as := []) 0 [] at_309 (wq hw 68 rfl) (wq hw 69 rfl) (wq hw 71 rfl) (wq hw 71 rfl) (wq hw 70 rfl) (wq hw 6 rfl) (wq hw 72 rfl) (Hp.exa m18) (c59_length hw hs (hx1 := (by have := a_add g13 g15; have := a_add g12 g13; have := q3; have := a_add g14 g15; have := q0; have := a_add (0 : Int32) g13; omega)) (l1 := gl46) (hl_l1 := hgl46) (mp1 := m18) (mp2 := m19)) (by decide) pd__I rfl rfl rfl rfl (by decide) (fun v D' h => ?_)
      obtain ⟨rfl, rfl⟩ := h
      show W _ _ _ _ _ _ _ _ _ _ _ _ 312 _ [(vi g45)]
      refine W.iload at_312 rfl ?_
      refine W.iload at_314 rfl ?_
      refine W.iadd at_316 ?_
      refine W.icmpN at_317 (n_ne (by have := a_add g13 g15; have := a_add g12 g13; have := q3; have := a_add g14 g15; have := q0; have := a_add (0 : Int32) g13; omega)) ?_
      refine W.aload 15 at_320 rfl rfl ?_
      refine W.iconst (0) at_322 (by decide) ?_
      refine W.aload 5 at_323 rfl rfl ?_
      refine W.iload at_325 rfl ?_
      refine W.iload at_327 rfl ?_
      refine W.aload 6 at_329 rfl rfl ?_
      refine W.iload at_331 rfl ?_
      refine W.iload at_333 rfl ?_
      refine W.callS (as := [(vr a43), (vi 0), (vr a2), (vi g12), (vi g13), (vr a6), (vi g14), (vi g15)]) 0 [] at_335 (wq hw 178 rfl) (wq hw 179 rfl) (wq hw 180 rfl) (wq hw 181 rfl) (c60_at hw hs (hx1 := (by decide)) (hx2 := (by have := a_add g12 g13; have := q3; have := q0; have := a_add (0 : Int32) g13; have := a_add g13 g15; have := a_add g14 g15; omega)) (hx3 := (by have := a_add g12 g13; have := q3; have := q0; have := a_add (0 : Int32) g13; have := a_add g13 g15; have := a_add g14 g15; omega)) (hx4 := (by have := a_add g14 g15; have := q3; have := a_add g13 g15; have := a_add g12 g13; have := q0; have := a_add (0 : Int32) g13; omega)) (hx5 := (by have := a_add g14 g15; have := q3; have := a_add g13 g15; have := a_add g12 g13; have := q0; have := a_add (0 : Int32) g13; omega)) (hx6 := (by have := a_add g13 g15; have := a_add g12 g13; have := q3; have := a_add g14 g15; have := q0; have := a_add (0 : Int32) g13; omega)) (hr0 := by have := a_add g13 g15; have := a_add g12 g13; have := q3; have := a_add g14 g15; have := q0; have := a_add (0 : Int32) g13; omega) (hr1 := by have := a_add g12 g13; have := q3; have := q0; have := a_add (0 : Int32) g13; have := a_add g13 g15; have := a_add g14 g15; omega) (hr2 := by have := a_add g14 g15; have := q3; have := a_add g13 g15; have := a_add g12 g13; have := q0; have := a_add (0 : Int32) g13; omega) (l1 := [g3, g4, g5]) (hl_l1 := (len_q (k := 3) rfl (by decide))) (hb_l1 := (bl3 hg3 hg4 hg5)) (l2 := [g7, g8, g9]) (hl_l2 := (len_q (k := 3) rfl (by decide))) (hb_l2 := (bl3 hg7 hg8 hg9)) (l3 := gl46) (hl_l3 := hgl46) (hA := (fun h1 => hQ3 _ (by have := q0; have := a_add g13 g15; have := a_add g12 g13; have := q3; have := a_add g14 g15; have := a_add (0 : Int32) g13; omega))) (hB := (fun h1 h2 => by have := q0; have := a_add g13 g15; have := a_add g12 g13; have := q3; have := a_add g14 g15; have := a_add (0 : Int32) g13; have := hQ4 ((0 : Int32).toInt.toNat - g13.toInt.toNat) (by omega); rw [show g13.toInt.toNat + ((0 : Int32).toInt.toNat - g13.toInt.toNat) = (0 : Int32).toInt.toNat from by omega] at this; exact this)) (mp3 := m13) (mp1 := m18) (mp4 := m19) (mp2 := m12)) (by decide) pd_Ljava_lang_String_I_CII_CII_Z rfl rfl rfl rfl (by decide) (fun v D' h => ?_)
      obtain ⟨rfl, rfl⟩ := h
      show W _ _ _ _ _ _ _ _ _ _ _ _ 338 _ [(vi 1)]
      refine W.ifN at_338 (n_eq (by decide)) ?_
      refine W.aload 15 at_341 rfl rfl ?_
      refine W.iconst (1) at_343 (by decide) ?_
      refine W.aload 5 at_344 rfl rfl ?_
      refine W.iload at_346 rfl ?_
      refine W.iload at_348 rfl ?_
      refine W.aload 6 at_350 rfl rfl ?_
      refine W.iload at_352 rfl ?_
      refine W.iload at_354 rfl ?_
      refine W.callS (as := [(vr a43), (vi 1), (vr a2), (vi g12), (vi g13), (vr a6), (vi g14), (vi g15)]) 0 [] at_356 (wq hw 178 rfl) (wq hw 179 rfl) (wq hw 180 rfl) (wq hw 181 rfl) (c60_at hw hs (hx1 := (by decide)) (hx2 := (by have := a_add g12 g13; have := q3; have := q0; have := a_add (0 : Int32) g13; have := a_add g13 g15; have := a_add g14 g15; omega)) (hx3 := (by have := a_add g12 g13; have := q3; have := q0; have := a_add (0 : Int32) g13; have := a_add g13 g15; have := a_add g14 g15; omega)) (hx4 := (by have := a_add g14 g15; have := q3; have := a_add g13 g15; have := a_add g12 g13; have := q0; have := a_add (0 : Int32) g13; omega)) (hx5 := (by have := a_add g14 g15; have := q3; have := a_add g13 g15; have := a_add g12 g13; have := q0; have := a_add (0 : Int32) g13; omega)) (hx6 := (by have := a_add g13 g15; have := a_add g12 g13; have := q3; have := a_add g14 g15; have := q0; have := a_add (0 : Int32) g13; omega)) (hr0 := by have := a_add g13 g15; have := a_add g12 g13; have := q3; have := a_add g14 g15; have := q0; have := a_add (0 : Int32) g13; omega) (hr1 := by have := a_add g12 g13; have := q3; have := q0; have := a_add (0 : Int32) g13; have := a_add g13 g15; have := a_add g14 g15; omega) (hr2 := by have := a_add g14 g15; have := q3; have := a_add g13 g15; have := a_add g12 g13; have := q0; have := a_add (0 : Int32) g13; omega) (l1 := [g3, g4, g5]) (hl_l1 := (len_q (k := 3) rfl (by decide))) (hb_l1 := (bl3 hg3 hg4 hg5)) (l2 := [g7, g8, g9]) (hl_l2 := (len_q (k := 3) rfl (by decide))) (hb_l2 := (bl3 hg7 hg8 hg9)) (l3 := gl46) (hl_l3 := hgl46) (hA := (fun h1 => hQ3 _ (by have := q1; have := a_add g13 g15; have := q0; have := a_add g12 g13; have := q3; have := a_add g14 g15; have := a_add (0 : Int32) g13; omega))) (hB := (fun h1 h2 => by have := q1; have := a_add g13 g15; have := q0; have := a_add g12 g13; have := q3; have := a_add g14 g15; have := a_add (0 : Int32) g13; have := hQ4 ((1 : Int32).toInt.toNat - g13.toInt.toNat) (by omega); rw [show g13.toInt.toNat + ((1 : Int32).toInt.toNat - g13.toInt.toNat) = (1 : Int32).toInt.toNat from by omega] at this; exact this)) (mp3 := m13) (mp1 := m18) (mp4 := m19) (mp2 := m12)) (by decide) pd_Ljava_lang_String_I_CII_CII_Z rfl rfl rfl rfl (by decide) (fun v D' h => ?_)
      obtain ⟨rfl, rfl⟩ := h
      show W _ _ _ _ _ _ _ _ _ _ _ _ 359 _ [(vi 1)]
      refine W.ifN at_359 (n_eq (by decide)) ?_
      refine W.aload 15 at_362 rfl rfl ?_
      refine W.iconst (2) at_364 (by decide) ?_
      refine W.aload 5 at_365 rfl rfl ?_
      refine W.iload at_367 rfl ?_
      refine W.iload at_369 rfl ?_
      refine W.aload 6 at_371 rfl rfl ?_
      refine W.iload at_373 rfl ?_
      refine W.iload at_375 rfl ?_
      refine W.callS (as := [(vr a43), (vi 2), (vr a2), (vi g12), (vi g13), (vr a6), (vi g14), (vi g15)]) 0 [] at_377 (wq hw 178 rfl) (wq hw 179 rfl) (wq hw 180 rfl) (wq hw 181 rfl) (c60_at hw hs (hx1 := (by decide)) (hx2 := (by have := a_add g12 g13; have := q3; have := q0; have := a_add (0 : Int32) g13; have := a_add g13 g15; have := a_add g14 g15; omega)) (hx3 := (by have := a_add g12 g13; have := q3; have := q0; have := a_add (0 : Int32) g13; have := a_add g13 g15; have := a_add g14 g15; omega)) (hx4 := (by have := a_add g14 g15; have := q3; have := a_add g13 g15; have := a_add g12 g13; have := q0; have := a_add (0 : Int32) g13; omega)) (hx5 := (by have := a_add g14 g15; have := q3; have := a_add g13 g15; have := a_add g12 g13; have := q0; have := a_add (0 : Int32) g13; omega)) (hx6 := (by have := a_add g13 g15; have := a_add g12 g13; have := q3; have := a_add g14 g15; have := q0; have := a_add (0 : Int32) g13; omega)) (hr0 := by have := a_add g13 g15; have := a_add g12 g13; have := q3; have := a_add g14 g15; have := q0; have := a_add (0 : Int32) g13; omega) (hr1 := by have := a_add g12 g13; have := q3; have := q0; have := a_add (0 : Int32) g13; have := a_add g13 g15; have := a_add g14 g15; omega) (hr2 := by have := a_add g14 g15; have := q3; have := a_add g13 g15; have := a_add g12 g13; have := q0; have := a_add (0 : Int32) g13; omega) (l1 := [g3, g4, g5]) (hl_l1 := (len_q (k := 3) rfl (by decide))) (hb_l1 := (bl3 hg3 hg4 hg5)) (l2 := [g7, g8, g9]) (hl_l2 := (len_q (k := 3) rfl (by decide))) (hb_l2 := (bl3 hg7 hg8 hg9)) (l3 := gl46) (hl_l3 := hgl46) (hA := (fun h1 => hQ3 _ (by have := q2; have := a_add g13 g15; have := q0; have := a_add g12 g13; have := q3; have := a_add g14 g15; have := a_add (0 : Int32) g13; omega))) (hB := (fun h1 h2 => by have := q2; have := a_add g13 g15; have := q0; have := a_add g12 g13; have := q3; have := a_add g14 g15; have := a_add (0 : Int32) g13; have := hQ4 ((2 : Int32).toInt.toNat - g13.toInt.toNat) (by omega); rw [show g13.toInt.toNat + ((2 : Int32).toInt.toNat - g13.toInt.toNat) = (2 : Int32).toInt.toNat from by omega] at this; exact this)) (mp3 := m13) (mp1 := m18) (mp4 := m19) (mp2 := m12)) (by decide) pd_Ljava_lang_String_I_CII_CII_Z rfl rfl rfl rfl (by decide) (fun v D' h => ?_)
      obtain ⟨rfl, rfl⟩ := h
      show W _ _ _ _ _ _ _ _ _ _ _ _ 380 _ [(vi 1)]
      refine W.ifN at_380 (n_eq (by decide)) ?_
      refine W.aload 15 at_383 rfl rfl ?_
      refine W.iconst (3) at_385 (by decide) ?_
      refine W.aload 5 at_386 rfl rfl ?_
      refine W.iload at_388 rfl ?_
      refine W.iload at_390 rfl ?_
      refine W.aload 6 at_392 rfl rfl ?_
      refine W.iload at_394 rfl ?_
      refine W.iload at_396 rfl ?_
      refine W.callS (as := [(vr a43), (vi 3), (vr a2), (vi g12), (vi g13), (vr a6), (vi g14), (vi g15)]) 0 [] at_398 (wq hw 178 rfl) (wq hw 179 rfl) (wq hw 180 rfl) (wq hw 181 rfl) (c60_at hw hs (hx1 := (by decide)) (hx2 := (by have := a_add g12 g13; have := q3; have := q0; have := a_add (0 : Int32) g13; have := a_add g13 g15; have := a_add g14 g15; omega)) (hx3 := (by have := a_add g12 g13; have := q3; have := q0; have := a_add (0 : Int32) g13; have := a_add g13 g15; have := a_add g14 g15; omega)) (hx4 := (by have := a_add g14 g15; have := q3; have := a_add g13 g15; have := a_add g12 g13; have := q0; have := a_add (0 : Int32) g13; omega)) (hx5 := (by have := a_add g14 g15; have := q3; have := a_add g13 g15; have := a_add g12 g13; have := q0; have := a_add (0 : Int32) g13; omega)) (hx6 := (by have := a_add g13 g15; have := a_add g12 g13; have := q3; have := a_add g14 g15; have := q0; have := a_add (0 : Int32) g13; omega)) (hr0 := by have := a_add g13 g15; have := a_add g12 g13; have := q3; have := a_add g14 g15; have := q0; have := a_add (0 : Int32) g13; omega) (hr1 := by have := a_add g12 g13; have := q3; have := q0; have := a_add (0 : Int32) g13; have := a_add g13 g15; have := a_add g14 g15; omega) (hr2 := by have := a_add g14 g15; have := q3; have := a_add g13 g15; have := a_add g12 g13; have := q0; have := a_add (0 : Int32) g13; omega) (l1 := [g3, g4, g5]) (hl_l1 := (len_q (k := 3) rfl (by decide))) (hb_l1 := (bl3 hg3 hg4 hg5)) (l2 := [g7, g8, g9]) (hl_l2 := (len_q (k := 3) rfl (by decide))) (hb_l2 := (bl3 hg7 hg8 hg9)) (l3 := gl46) (hl_l3 := hgl46) (hA := (fun h1 => hQ3 _ (by have := q3; have := a_add g13 g15; have := q0; have := a_add g12 g13; have := a_add g14 g15; have := a_add (0 : Int32) g13; omega))) (hB := (fun h1 h2 => by have := q3; have := a_add g13 g15; have := q0; have := a_add g12 g13; have := a_add g14 g15; have := a_add (0 : Int32) g13; have := hQ4 ((3 : Int32).toInt.toNat - g13.toInt.toNat) (by omega); rw [show g13.toInt.toNat + ((3 : Int32).toInt.toNat - g13.toInt.toNat) = (3 : Int32).toInt.toNat from by omega] at this; exact this)) (mp3 := m13) (mp1 := m18) (mp4 := m19) (mp2 := m12)) (by decide) pd_Ljava_lang_String_I_CII_CII_Z rfl rfl rfl rfl (by decide) (fun v D' h => ?_)
      obtain ⟨rfl, rfl⟩ := h
      show W _ _ _ _ _ _ _ _ _ _ _ _ 401 _ [(vi 1)]
      refine W.ifN at_401 (n_eq (by decide)) ?_
      refine W.aload 15 at_404 rfl rfl ?_
      refine W.iconst (4) at_406 (by decide) ?_
      refine W.aload 5 at_407 rfl rfl ?_
      refine W.iload at_409 rfl ?_
      refine W.iload at_411 rfl ?_
      refine W.aload 6 at_413 rfl rfl ?_
      refine W.iload at_415 rfl ?_
      refine W.iload at_417 rfl ?_
      refine W.callS (as := [(vr a43), (vi 4), (vr a2), (vi g12), (vi g13), (vr a6), (vi g14), (vi g15)]) 0 [] at_419 (wq hw 178 rfl) (wq hw 179 rfl) (wq hw 180 rfl) (wq hw 181 rfl) (c60_at hw hs (hx1 := (by decide)) (hx2 := (by have := a_add g12 g13; have := q3; have := q0; have := a_add (0 : Int32) g13; have := a_add g13 g15; have := a_add g14 g15; omega)) (hx3 := (by have := a_add g12 g13; have := q3; have := q0; have := a_add (0 : Int32) g13; have := a_add g13 g15; have := a_add g14 g15; omega)) (hx4 := (by have := a_add g14 g15; have := q3; have := a_add g13 g15; have := a_add g12 g13; have := q0; have := a_add (0 : Int32) g13; omega)) (hx5 := (by have := a_add g14 g15; have := q3; have := a_add g13 g15; have := a_add g12 g13; have := q0; have := a_add (0 : Int32) g13; omega)) (hx6 := (by have := a_add g13 g15; have := a_add g12 g13; have := q3; have := a_add g14 g15; have := q0; have := a_add (0 : Int32) g13; omega)) (hr0 := by have := a_add g13 g15; have := a_add g12 g13; have := q3; have := a_add g14 g15; have := q0; have := a_add (0 : Int32) g13; omega) (hr1 := by have := a_add g12 g13; have := q3; have := q0; have := a_add (0 : Int32) g13; have := a_add g13 g15; have := a_add g14 g15; omega) (hr2 := by have := a_add g14 g15; have := q3; have := a_add g13 g15; have := a_add g12 g13; have := q0; have := a_add (0 : Int32) g13; omega) (l1 := [g3, g4, g5]) (hl_l1 := (len_q (k := 3) rfl (by decide))) (hb_l1 := (bl3 hg3 hg4 hg5)) (l2 := [g7, g8, g9]) (hl_l2 := (len_q (k := 3) rfl (by decide))) (hb_l2 := (bl3 hg7 hg8 hg9)) (l3 := gl46) (hl_l3 := hgl46) (hA := (fun h1 => hQ3 _ (by have := q4; have := a_add g13 g15; have := q0; have := a_add g12 g13; have := q3; have := a_add g14 g15; have := a_add (0 : Int32) g13; omega))) (hB := (fun h1 h2 => by have := q4; have := a_add g13 g15; have := q0; have := a_add g12 g13; have := q3; have := a_add g14 g15; have := a_add (0 : Int32) g13; have := hQ4 ((4 : Int32).toInt.toNat - g13.toInt.toNat) (by omega); rw [show g13.toInt.toNat + ((4 : Int32).toInt.toNat - g13.toInt.toNat) = (4 : Int32).toInt.toNat from by omega] at this; exact this)) (mp3 := m13) (mp1 := m18) (mp4 := m19) (mp2 := m12)) (by decide) pd_Ljava_lang_String_I_CII_CII_Z rfl rfl rfl rfl (by decide) (fun v D' h => ?_)
      obtain ⟨rfl, rfl⟩ := h
      show W _ _ _ _ _ _ _ _ _ _ _ _ 422 _ [(vi 1)]
      refine W.ifN at_422 (n_eq (by decide)) ?_
      refine W.aload 15 at_425 rfl rfl ?_
      refine W.iconst (5) at_427 (by decide) ?_
      refine W.aload 5 at_428 rfl rfl ?_
      refine W.iload at_430 rfl ?_
      refine W.iload at_432 rfl ?_
      refine W.aload 6 at_434 rfl rfl ?_
      refine W.iload at_436 rfl ?_
      refine W.iload at_438 rfl ?_
      refine W.callS (as := [(vr a43), (vi 5), (vr a2), (vi g12), (vi g13), (vr a6), (vi g14), (vi g15)]) 0 [] at_440 (wq hw 178 rfl) (wq hw 179 rfl) (wq hw 180 rfl) (wq hw 181 rfl) (c60_at hw hs (hx1 := (by decide)) (hx2 := (by have := a_add g12 g13; have := q3; have := q0; have := a_add (0 : Int32) g13; have := a_add g13 g15; have := a_add g14 g15; omega)) (hx3 := (by have := a_add g12 g13; have := q3; have := q0; have := a_add (0 : Int32) g13; have := a_add g13 g15; have := a_add g14 g15; omega)) (hx4 := (by have := a_add g14 g15; have := q3; have := a_add g13 g15; have := a_add g12 g13; have := q0; have := a_add (0 : Int32) g13; omega)) (hx5 := (by have := a_add g14 g15; have := q3; have := a_add g13 g15; have := a_add g12 g13; have := q0; have := a_add (0 : Int32) g13; omega)) (hx6 := (by have := a_add g13 g15; have := a_add g12 g13; have := q3; have := a_add g14 g15; have := q0; have := a_add (0 : Int32) g13; omega)) (hr0 := by have := a_add g13 g15; have := a_add g12 g13; have := q3; have := a_add g14 g15; have := q0; have := a_add (0 : Int32) g13; omega) (hr1 := by have := a_add g12 g13; have := q3; have := q0; have := a_add (0 : Int32) g13; have := a_add g13 g15; have := a_add g14 g15; omega) (hr2 := by have := a_add g14 g15; have := q3; have := a_add g13 g15; have := a_add g12 g13; have := q0; have := a_add (0 : Int32) g13; omega) (l1 := [g3, g4, g5]) (hl_l1 := (len_q (k := 3) rfl (by decide))) (hb_l1 := (bl3 hg3 hg4 hg5)) (l2 := [g7, g8, g9]) (hl_l2 := (len_q (k := 3) rfl (by decide))) (hb_l2 := (bl3 hg7 hg8 hg9)) (l3 := gl46) (hl_l3 := hgl46) (hA := (fun h1 => hQ3 _ (by have := q5; have := a_add g13 g15; have := q0; have := a_add g12 g13; have := q3; have := a_add g14 g15; have := a_add (0 : Int32) g13; omega))) (hB := (fun h1 h2 => by have := q5; have := a_add g13 g15; have := q0; have := a_add g12 g13; have := q3; have := a_add g14 g15; have := a_add (0 : Int32) g13; have := hQ4 ((5 : Int32).toInt.toNat - g13.toInt.toNat) (by omega); rw [show g13.toInt.toNat + ((5 : Int32).toInt.toNat - g13.toInt.toNat) = (5 : Int32).toInt.toNat from by omega] at this; exact this)) (mp3 := m13) (mp1 := m18) (mp4 := m19) (mp2 := m12)) (by decide) pd_Ljava_lang_String_I_CII_CII_Z rfl rfl rfl rfl (by decide) (fun v D' h => ?_)
      obtain ⟨rfl, rfl⟩ := h
      show W _ _ _ _ _ _ _ _ _ _ _ _ 443 _ [(vi 1)]
      refine W.ifN at_443 (n_eq (by decide)) ?_
      refine W.iconst (1) at_446 (by decide) ?_
      refine W.goto 451 at_447 (by decide) ?_
      refine W.istore (ls' := #[iv z0, iv z1, iv z2, iv z3, iv z4, rv a2, rv a6, iv g12, iv g13, iv g14, iv g15, rv a17, rv a18, iv 1, rv a34, rv a43]) at_451 rfl ?_
      refine W.iload at_453 rfl ?_
      exact W.ireturn at_455 rfl (Or.inr (Or.inl rfl)) (nw_bool (by decide)) (by decide) rfl
     have K55 : ∀ (a48 : Addr) (g49 : Int32) (gl50 : List Int32) (a51 : Addr) (a52 : Addr) (g53 : Int32) (gl54 : List Int32), -62 ≤ g49.toInt ∧ g49.toInt ≤ 128 → (gl50.length : Int) = g49.toInt → -62 ≤ g53.toInt ∧ g53.toInt ≤ 128 → (gl54.length : Int) = g53.toInt → (g53.toInt = ((g13 + g15) <<< ((1 : Int32) &&& 31)).toInt) → (∀ i, i < g13.toInt.toNat → dc 1 gl54 i = [g3, g4, g5].getD (g12.toInt.toNat + i) 0) → (∀ i, i < g15.toInt.toNat → dc 1 gl54 (g13.toInt.toNat + i) = [g7, g8, g9].getD (g14.toInt.toNat + i) 0) → W Z EL room_1 "com/example/montaje/montaje/xml/XmlElementAppendTextPinLaw" "law" code maxLocals ret (fun v _ => v = some (.int 1)) ((a27, false, oString (vr a28) (vi 0)) :: (a28, false, ar "" .byte []) :: (a26, true, oArrayList (vi 0) (vr (og1 Z))) :: (a18, true, oXmlElement (vr a26) (vr a19) (vr a21) (vr a23) (vi 1) .null (vr a25) (vr a30)) :: (a25, true, oArrayList (vi 0) (vr (og1 Z))) :: (a23, false, oString (vr a24) (vi 0)) :: (a24, false, ar "" .byte [(vi 120)]) :: (a21, false, oString (vr a22) (vi 0)) :: (a22, false, ar "" .byte [(vi 120)]) :: (a19, false, oString (vr a20) (vi 0)) :: (a20, false, ar "" .byte []) :: (a17, true, ar "[C" .char [(vi g7), (vi g8), (vi g9)]) :: (a2, true, ar "[C" .char [(vi g3), (vi g4), (vi g5)]) :: (a6, true, ar "[C" .char [(vi g7), (vi g8), (vi g9)]) :: (a30, true, oStringBuilder (vr a48) (vi 1) (vi (((0 : Int32) + g13) + g15)) (vi 0)) :: (a34, true, oString (vr a35) (vi 0)) :: (a35, true, ar "[B" .byte (lm gl37)) :: (a48, true, ar "[B" .byte (lm gl50)) :: (a51, true, oString (vr a52) (vi 1)) :: (a52, true, ar "[B" .byte (lm gl54)) :: []) 24 1844 302 #[iv z0, iv z1, iv z2, iv z3, iv z4, rv a2, rv a6, iv g12, iv g13, iv g14, iv g15, rv a17, rv a18, iv 1, rv a34, rv a51] [] := by
      intro a48 g49 gl50 a51 a52 g53 gl54 hg49 hgl50 hg53 hgl54 hQ1 hQ3 hQ4
      refine W.iload at_302 rfl ?_
      refine W.ifN at_304 (n_eq (by decide)) ?_
      refine W.aload 15 at_307 rfl rfl ?_
      refine W.callV (as := []) 0 [] at_309 (wq hw 68 rfl) (wq hw 69 rfl) (wq hw 71 rfl) (wq hw 71 rfl) (wq hw 70 rfl) (wq hw 6 rfl) (wq hw 72 rfl) (Hp.exa m18) (c81_length hw hs (hx1 := (by have := a_add g13 g15; have := q1; have := ashl_1 (g13 + g15); have := a_add g12 g13; have := q3; have := a_add g14 g15; have := q0; have := a_add (0 : Int32) g13; omega)) (l1 := gl54) (hl_l1 := hgl54) (mp1 := m18) (mp2 := m19)) (by decide) pd__I rfl rfl rfl rfl (by decide) (fun v D' h => ?_)
      obtain ⟨rfl, rfl⟩ := h
      show W _ _ _ _ _ _ _ _ _ _ _ _ 312 _ [(vi (g53 >>> ((1 : Int32) &&& 31)))]
      refine W.iload at_312 rfl ?_
      refine W.iload at_314 rfl ?_
      refine W.iadd at_316 ?_
      refine W.icmpN at_317 (n_ne (by have := q1; have := ashr_1 g53; have := a_add g13 g15; have := a_add g12 g13; have := q3; have := a_add g14 g15; have := q0; have := a_add (0 : Int32) g13; have := ashl_1 (g13 + g15); omega)) ?_
      refine W.aload 15 at_320 rfl rfl ?_
      refine W.iconst (0) at_322 (by decide) ?_
      refine W.aload 5 at_323 rfl rfl ?_
      refine W.iload at_325 rfl ?_
      refine W.iload at_327 rfl ?_
      refine W.aload 6 at_329 rfl rfl ?_
      refine W.iload at_331 rfl ?_
      refine W.iload at_333 rfl ?_
      refine W.callS (as := [(vr a51), (vi 0), (vr a2), (vi g12), (vi g13), (vr a6), (vi g14), (vi g15)]) 0 [] at_335 (wq hw 178 rfl) (wq hw 179 rfl) (wq hw 180 rfl) (wq hw 181 rfl) (c83_at hw hs (hx1 := (by decide)) (hx2 := (by have := a_add g12 g13; have := q3; have := q0; have := a_add (0 : Int32) g13; have := a_add g13 g15; have := q1; have := ashl_1 (g13 + g15); have := a_add g14 g15; omega)) (hx3 := (by have := a_add g12 g13; have := q3; have := q0; have := a_add (0 : Int32) g13; have := a_add g13 g15; have := q1; have := ashl_1 (g13 + g15); have := a_add g14 g15; omega)) (hx4 := (by have := a_add g14 g15; have := q3; have := a_add g13 g15; have := q1; have := ashl_1 (g13 + g15); have := a_add g12 g13; have := q0; have := a_add (0 : Int32) g13; omega)) (hx5 := (by have := a_add g14 g15; have := q3; have := a_add g13 g15; have := q1; have := ashl_1 (g13 + g15); have := a_add g12 g13; have := q0; have := a_add (0 : Int32) g13; omega)) (hx6 := (by have := a_add g13 g15; have := q1; have := ashl_1 (g13 + g15); have := a_add g12 g13; have := q3; have := a_add g14 g15; have := q0; have := a_add (0 : Int32) g13; omega)) (hr0 := by have := a_add g13 g15; have := q1; have := ashr_1 g53; have := a_add g12 g13; have := q3; have := a_add g14 g15; have := q0; have := a_add (0 : Int32) g13; have := ashl_1 (g13 + g15); omega) (hr1 := by have := a_add g12 g13; have := q3; have := q0; have := a_add (0 : Int32) g13; have := a_add g13 g15; have := q1; have := ashl_1 (g13 + g15); have := a_add g14 g15; omega) (hr2 := by have := a_add g14 g15; have := q3; have := a_add g13 g15; have := q1; have := ashl_1 (g13 + g15); have := a_add g12 g13; have := q0; have := a_add (0 : Int32) g13; omega) (l1 := [g3, g4, g5]) (hl_l1 := (len_q (k := 3) rfl (by decide))) (hb_l1 := (bl3 hg3 hg4 hg5)) (l2 := [g7, g8, g9]) (hl_l2 := (len_q (k := 3) rfl (by decide))) (hb_l2 := (bl3 hg7 hg8 hg9)) (l3 := gl54) (hl_l3 := hgl54) (hA := (fun h1 => hQ3 _ (by have := q0; have := a_add g13 g15; have := a_add g12 g13; have := q3; have := a_add g14 g15; have := a_add (0 : Int32) g13; have := q1; have := ashl_1 (g13 + g15); omega))) (hB := (fun h1 h2 => by have := q0; have := a_add g13 g15; have := a_add g12 g13; have := q3; have := a_add g14 g15; have := a_add (0 : Int32) g13; have := q1; have := ashl_1 (g13 + g15); have := hQ4 ((0 : Int32).toInt.toNat - g13.toInt.toNat) (by omega); rw [show g13.toInt.toNat + ((0 : Int32).toInt.toNat - g13.toInt.toNat) = (0 : Int32).toInt.toNat from by omega] at this; exact this)) (mp3 := m13) (mp1 := m18) (mp4 := m19) (mp2 := m12)) (by decide) pd_Ljava_lang_String_I_CII_CII_Z rfl rfl rfl rfl (by decide) (fun v D' h => ?_)
      obtain ⟨rfl, rfl⟩ := h
      show W _ _ _ _ _ _ _ _ _ _ _ _ 338 _ [(vi 1)]
      refine W.ifN at_338 (n_eq (by decide)) ?_
      refine W.aload 15 at_341 rfl rfl ?_
      refine W.iconst (1) at_343 (by decide) ?_
      refine W.aload 5 at_344 rfl rfl ?_
      refine W.iload at_346 rfl ?_
      refine W.iload at_348 rfl ?_
      refine W.aload 6 at_350 rfl rfl ?_
      refine W.iload at_352 rfl ?_
      refine W.iload at_354 rfl ?_
      refine W.callS (as := [(vr a51), (vi 1), (vr a2), (vi g12), (vi g13), (vr a6), (vi g14), (vi g15)]) 0 [] at_356 (wq hw 178 rfl) (wq hw 179 rfl) (wq hw 180 rfl) (wq hw 181 rfl) (c83_at hw hs (hx1 := (by decide)) (hx2 := (by have := a_add g12 g13; have := q3; have := q0; have := a_add (0 : Int32) g13; have := a_add g13 g15; have := q1; have := ashl_1 (g13 + g15); have := a_add g14 g15; omega)) (hx3 := (by have := a_add g12 g13; have := q3; have := q0; have := a_add (0 : Int32) g13; have := a_add g13 g15; have := q1; have := ashl_1 (g13 + g15); have := a_add g14 g15; omega)) (hx4 := (by have := a_add g14 g15; have := q3; have := a_add g13 g15; have := q1; have := ashl_1 (g13 + g15); have := a_add g12 g13; have := q0; have := a_add (0 : Int32) g13; omega)) (hx5 := (by have := a_add g14 g15; have := q3; have := a_add g13 g15; have := q1; have := ashl_1 (g13 + g15); have := a_add g12 g13; have := q0; have := a_add (0 : Int32) g13; omega)) (hx6 := (by have := a_add g13 g15; have := q1; have := ashl_1 (g13 + g15); have := a_add g12 g13; have := q3; have := a_add g14 g15; have := q0; have := a_add (0 : Int32) g13; omega)) (hr0 := by have := a_add g13 g15; have := q1; have := ashr_1 g53; have := a_add g12 g13; have := q3; have := a_add g14 g15; have := q0; have := a_add (0 : Int32) g13; have := ashl_1 (g13 + g15); omega) (hr1 := by have := a_add g12 g13; have := q3; have := q0; have := a_add (0 : Int32) g13; have := a_add g13 g15; have := q1; have := ashl_1 (g13 + g15); have := a_add g14 g15; omega) (hr2 := by have := a_add g14 g15; have := q3; have := a_add g13 g15; have := q1; have := ashl_1 (g13 + g15); have := a_add g12 g13; have := q0; have := a_add (0 : Int32) g13; omega) (l1 := [g3, g4, g5]) (hl_l1 := (len_q (k := 3) rfl (by decide))) (hb_l1 := (bl3 hg3 hg4 hg5)) (l2 := [g7, g8, g9]) (hl_l2 := (len_q (k := 3) rfl (by decide))) (hb_l2 := (bl3 hg7 hg8 hg9)) (l3 := gl54) (hl_l3 := hgl54) (hA := (fun h1 => hQ3 _ (by have := q1; have := a_add g13 g15; have := q0; have := a_add g12 g13; have := q3; have := a_add g14 g15; have := a_add (0 : Int32) g13; have := ashl_1 (g13 + g15); omega))) (hB := (fun h1 h2 => by have := q1; have := a_add g13 g15; have := q0; have := a_add g12 g13; have := q3; have := a_add g14 g15; have := a_add (0 : Int32) g13; have := ashl_1 (g13 + g15); have := hQ4 ((1 : Int32).toInt.toNat - g13.toInt.toNat) (by omega); rw [show g13.toInt.toNat + ((1 : Int32).toInt.toNat - g13.toInt.toNat) = (1 : Int32).toInt.toNat from by omega] at this; exact this)) (mp3 := m13) (mp1 := m18) (mp4 := m19) (mp2 := m12)) (by decide) pd_Ljava_lang_String_I_CII_CII_Z rfl rfl rfl rfl (by decide) (fun v D' h => ?_)
      obtain ⟨rfl, rfl⟩ := h
      show W _ _ _ _ _ _ _ _ _ _ _ _ 359 _ [(vi 1)]
      refine W.ifN at_359 (n_eq (by decide)) ?_
      refine W.aload 15 at_362 rfl rfl ?_
      refine W.iconst (2) at_364 (by decide) ?_
      refine W.aload 5 at_365 rfl rfl ?_
      refine W.iload at_367 rfl ?_
      refine W.iload at_369 rfl ?_
      refine W.aload 6 at_371 rfl rfl ?_
      refine W.iload at_373 rfl ?_
      refine W.iload at_375 rfl ?_
      refine W.callS (as := [(vr a51), (vi 2), (vr a2), (vi g12), (vi g13), (vr a6), (vi g14), (vi g15)]) 0 [] at_377 (wq hw 178 rfl) (wq hw 179 rfl) (wq hw 180 rfl) (wq hw 181 rfl) (c83_at hw hs (hx1 := (by decide)) (hx2 := (by have := a_add g12 g13; have := q3; have := q0; have := a_add (0 : Int32) g13; have := a_add g13 g15; have := q1; have := ashl_1 (g13 + g15); have := a_add g14 g15; omega)) (hx3 := (by have := a_add g12 g13; have := q3; have := q0; have := a_add (0 : Int32) g13; have := a_add g13 g15; have := q1; have := ashl_1 (g13 + g15); have := a_add g14 g15; omega)) (hx4 := (by have := a_add g14 g15; have := q3; have := a_add g13 g15; have := q1; have := ashl_1 (g13 + g15); have := a_add g12 g13; have := q0; have := a_add (0 : Int32) g13; omega)) (hx5 := (by have := a_add g14 g15; have := q3; have := a_add g13 g15; have := q1; have := ashl_1 (g13 + g15); have := a_add g12 g13; have := q0; have := a_add (0 : Int32) g13; omega)) (hx6 := (by have := a_add g13 g15; have := q1; have := ashl_1 (g13 + g15); have := a_add g12 g13; have := q3; have := a_add g14 g15; have := q0; have := a_add (0 : Int32) g13; omega)) (hr0 := by have := a_add g13 g15; have := q1; have := ashr_1 g53; have := a_add g12 g13; have := q3; have := a_add g14 g15; have := q0; have := a_add (0 : Int32) g13; have := ashl_1 (g13 + g15); omega) (hr1 := by have := a_add g12 g13; have := q3; have := q0; have := a_add (0 : Int32) g13; have := a_add g13 g15; have := q1; have := ashl_1 (g13 + g15); have := a_add g14 g15; omega) (hr2 := by have := a_add g14 g15; have := q3; have := a_add g13 g15; have := q1; have := ashl_1 (g13 + g15); have := a_add g12 g13; have := q0; have := a_add (0 : Int32) g13; omega) (l1 := [g3, g4, g5]) (hl_l1 := (len_q (k := 3) rfl (by decide))) (hb_l1 := (bl3 hg3 hg4 hg5)) (l2 := [g7, g8, g9]) (hl_l2 := (len_q (k := 3) rfl (by decide))) (hb_l2 := (bl3 hg7 hg8 hg9)) (l3 := gl54) (hl_l3 := hgl54) (hA := (fun h1 => hQ3 _ (by have := q2; have := a_add g13 g15; have := q0; have := a_add g12 g13; have := q3; have := a_add g14 g15; have := a_add (0 : Int32) g13; have := q1; have := ashl_1 (g13 + g15); omega))) (hB := (fun h1 h2 => by have := q2; have := a_add g13 g15; have := q0; have := a_add g12 g13; have := q3; have := a_add g14 g15; have := a_add (0 : Int32) g13; have := q1; have := ashl_1 (g13 + g15); have := hQ4 ((2 : Int32).toInt.toNat - g13.toInt.toNat) (by omega); rw [show g13.toInt.toNat + ((2 : Int32).toInt.toNat - g13.toInt.toNat) = (2 : Int32).toInt.toNat from by omega] at this; exact this)) (mp3 := m13) (mp1 := m18) (mp4 := m19) (mp2 := m12)) (by decide) pd_Ljava_lang_String_I_CII_CII_Z rfl rfl rfl rfl (by decide) (fun v D' h => ?_)
      obtain ⟨rfl, rfl⟩ := h
      show W _ _ _ _ _ _ _ _ _ _ _ _ 380 _ [(vi 1)]
      refine W.ifN at_380 (n_eq (by decide)) ?_
      refine W.aload 15 at_383 rfl rfl ?_
      refine W.iconst (3) at_385 (by decide) ?_
      refine W.aload 5 at_386 rfl rfl ?_
      refine W.iload at_388 rfl ?_
      refine W.iload at_390 rfl ?_
      refine W.aload 6 at_392 rfl rfl ?_
      refine W.iload at_394 rfl ?_
      refine W.iload at_396 rfl ?_
      refine W.callS (as := [(vr a51), (vi 3), (vr a2), (vi g12), (vi g13), (vr a6), (vi g14), (vi g15)]) 0 [] at_398 (wq hw 178 rfl) (wq hw 179 rfl) (wq hw 180 rfl) (wq hw 181 rfl) (c83_at hw hs (hx1 := (by decide)) (hx2 := (by have := a_add g12 g13; have := q3; have := q0; have := a_add (0 : Int32) g13; have := a_add g13 g15; have := q1; have := ashl_1 (g13 + g15); have := a_add g14 g15; omega)) (hx3 := (by have := a_add g12 g13; have := q3; have := q0; have := a_add (0 : Int32) g13; have := a_add g13 g15; have := q1; have := ashl_1 (g13 + g15); have := a_add g14 g15; omega)) (hx4 := (by have := a_add g14 g15; have := q3; have := a_add g13 g15; have := q1; have := ashl_1 (g13 + g15); have := a_add g12 g13; have := q0; have := a_add (0 : Int32) g13; omega)) (hx5 := (by have := a_add g14 g15; have := q3; have := a_add g13 g15; have := q1; have := ashl_1 (g13 + g15); have := a_add g12 g13; have := q0; have := a_add (0 : Int32) g13; omega)) (hx6 := (by have := a_add g13 g15; have := q1; have := ashl_1 (g13 + g15); have := a_add g12 g13; have := q3; have := a_add g14 g15; have := q0; have := a_add (0 : Int32) g13; omega)) (hr0 := by have := a_add g13 g15; have := q1; have := ashr_1 g53; have := a_add g12 g13; have := q3; have := a_add g14 g15; have := q0; have := a_add (0 : Int32) g13; have := ashl_1 (g13 + g15); omega) (hr1 := by have := a_add g12 g13; have := q3; have := q0; have := a_add (0 : Int32) g13; have := a_add g13 g15; have := q1; have := ashl_1 (g13 + g15); have := a_add g14 g15; omega) (hr2 := by have := a_add g14 g15; have := q3; have := a_add g13 g15; have := q1; have := ashl_1 (g13 + g15); have := a_add g12 g13; have := q0; have := a_add (0 : Int32) g13; omega) (l1 := [g3, g4, g5]) (hl_l1 := (len_q (k := 3) rfl (by decide))) (hb_l1 := (bl3 hg3 hg4 hg5)) (l2 := [g7, g8, g9]) (hl_l2 := (len_q (k := 3) rfl (by decide))) (hb_l2 := (bl3 hg7 hg8 hg9)) (l3 := gl54) (hl_l3 := hgl54) (hA := (fun h1 => hQ3 _ (by have := q3; have := a_add g13 g15; have := q0; have := a_add g12 g13; have := a_add g14 g15; have := a_add (0 : Int32) g13; have := q1; have := ashl_1 (g13 + g15); omega))) (hB := (fun h1 h2 => by have := q3; have := a_add g13 g15; have := q0; have := a_add g12 g13; have := a_add g14 g15; have := a_add (0 : Int32) g13; have := q1; have := ashl_1 (g13 + g15); have := hQ4 ((3 : Int32).toInt.toNat - g13.toInt.toNat) (by omega); rw [show g13.toInt.toNat + ((3 : Int32).toInt.toNat - g13.toInt.toNat) = (3 : Int32).toInt.toNat from by omega] at this; exact this)) (mp3 := m13) (mp1 := m18) (mp4 := m19) (mp2 := m12)) (by decide) pd_Ljava_lang_String_I_CII_CII_Z rfl rfl rfl rfl (by decide) (fun v D' h => ?_)
      obtain ⟨rfl, rfl⟩ := h
      show W _ _ _ _ _ _ _ _ _ _ _ _ 401 _ [(vi 1)]
      refine W.ifN at_401 (n_eq (by decide)) ?_
      refine W.aload 15 at_404 rfl rfl ?_
      refine W.iconst (4) at_406 (by decide) ?_
      refine W.aload 5 at_407 rfl rfl ?_
      refine W.iload at_409 rfl ?_
      refine W.iload at_411 rfl ?_
      refine W.aload 6 at_413 rfl rfl ?_
      refine W.iload at_415 rfl ?_
      refine W.iload at_417 rfl ?_
      refine W.callS (as := [(vr a51), (vi 4), (vr a2), (vi g12), (vi g13), (vr a6), (vi g14), (vi g15)]) 0 [] at_419 (wq hw 178 rfl) (wq hw 179 rfl) (wq hw 180 rfl) (wq hw 181 rfl) (c83_at hw hs (hx1 := (by decide)) (hx2 := (by have := a_add g12 g13; have := q3; have := q0; have := a_add (0 : Int32) g13; have := a_add g13 g15; have := q1; have := ashl_1 (g13 + g15); have := a_add g14 g15; omega)) (hx3 := (by have := a_add g12 g13; have := q3; have := q0; have := a_add (0 : Int32) g13; have := a_add g13 g15; have := q1; have := ashl_1 (g13 + g15); have := a_add g14 g15; omega)) (hx4 := (by have := a_add g14 g15; have := q3; have := a_add g13 g15; have := q1; have := ashl_1 (g13 + g15); have := a_add g12 g13; have := q0; have := a_add (0 : Int32) g13; omega)) (hx5 := (by have := a_add g14 g15; have := q3; have := a_add g13 g15; have := q1; have := ashl_1 (g13 + g15); have := a_add g12 g13; have := q0; have := a_add (0 : Int32) g13; omega)) (hx6 := (by have := a_add g13 g15; have := q1; have := ashl_1 (g13 + g15); have := a_add g12 g13; have := q3; have := a_add g14 g15; have := q0; have := a_add (0 : Int32) g13; omega)) (hr0 := by have := a_add g13 g15; have := q1; have := ashr_1 g53; have := a_add g12 g13; have := q3; have := a_add g14 g15; have := q0; have := a_add (0 : Int32) g13; have := ashl_1 (g13 + g15); omega) (hr1 := by have := a_add g12 g13; have := q3; have := q0; have := a_add (0 : Int32) g13; have := a_add g13 g15; have := q1; have := ashl_1 (g13 + g15); have := a_add g14 g15; omega) (hr2 := by have := a_add g14 g15; have := q3; have := a_add g13 g15; have := q1; have := ashl_1 (g13 + g15); have := a_add g12 g13; have := q0; have := a_add (0 : Int32) g13; omega) (l1 := [g3, g4, g5]) (hl_l1 := (len_q (k := 3) rfl (by decide))) (hb_l1 := (bl3 hg3 hg4 hg5)) (l2 := [g7, g8, g9]) (hl_l2 := (len_q (k := 3) rfl (by decide))) (hb_l2 := (bl3 hg7 hg8 hg9)) (l3 := gl54) (hl_l3 := hgl54) (hA := (fun h1 => hQ3 _ (by have := q4; have := a_add g13 g15; have := q0; have := a_add g12 g13; have := q3; have := a_add g14 g15; have := a_add (0 : Int32) g13; have := q1; have := ashl_1 (g13 + g15); omega))) (hB := (fun h1 h2 => by have := q4; have := a_add g13 g15; have := q0; have := a_add g12 g13; have := q3; have := a_add g14 g15; have := a_add (0 : Int32) g13; have := q1; have := ashl_1 (g13 + g15); have := hQ4 ((4 : Int32).toInt.toNat - g13.toInt.toNat) (by omega); rw [show g13.toInt.toNat + ((4 : Int32).toInt.toNat - g13.toInt.toNat) = (4 : Int32).toInt.toNat from by omega] at this; exact this)) (mp3 := m13) (mp1 := m18) (mp4 := m19) (mp2 := m12)) (by decide) pd_Ljava_lang_String_I_CII_CII_Z rfl rfl rfl rfl (by decide) (fun v D' h => ?_)
      obtain ⟨rfl, rfl⟩ := h
      show W _ _ _ _ _ _ _ _ _ _ _ _ 422 _ [(vi 1)]
      refine W.ifN at_422 (n_eq (by decide)) ?_
      refine W.aload 15 at_425 rfl rfl ?_
      refine W.iconst (5) at_427 (by decide) ?_
      refine W.aload 5 at_428 rfl rfl ?_
      refine W.iload at_430 rfl ?_
      refine W.iload at_432 rfl ?_
      refine W.aload 6 at_434 rfl rfl ?_
      refine W.iload at_436 rfl ?_
      refine W.iload at_438 rfl ?_
      refine W.callS (as := [(vr a51), (vi 5), (vr a2), (vi g12), (vi g13), (vr a6), (vi g14), (vi g15)]) 0 [] at_440 (wq hw 178 rfl) (wq hw 179 rfl) (wq hw 180 rfl) (wq hw 181 rfl) (c83_at hw hs (hx1 := (by decide)) (hx2 := (by have := a_add g12 g13; have := q3; have := q0; have := a_add (0 : Int32) g13; have := a_add g13 g15; have := q1; have := ashl_1 (g13 + g15); have := a_add g14 g15; omega)) (hx3 := (by have := a_add g12 g13; have := q3; have := q0; have := a_add (0 : Int32) g13; have := a_add g13 g15; have := q1; have := ashl_1 (g13 + g15); have := a_add g14 g15; omega)) (hx4 := (by have := a_add g14 g15; have := q3; have := a_add g13 g15; have := q1; have := ashl_1 (g13 + g15); have := a_add g12 g13; have := q0; have := a_add (0 : Int32) g13; omega)) (hx5 := (by have := a_add g14 g15; have := q3; have := a_add g13 g15; have := q1; have := ashl_1 (g13 + g15); have := a_add g12 g13; have := q0; have := a_add (0 : Int32) g13; omega)) (hx6 := (by have := a_add g13 g15; have := q1; have := ashl_1 (g13 + g15); have := a_add g12 g13; have := q3; have := a_add g14 g15; have := q0; have := a_add (0 : Int32) g13; omega)) (hr0 := by have := a_add g13 g15; have := q1; have := ashr_1 g53; have := a_add g12 g13; have := q3; have := a_add g14 g15; have := q0; have := a_add (0 : Int32) g13; have := ashl_1 (g13 + g15); omega) (hr1 := by have := a_add g12 g13; have := q3; have := q0; have := a_add (0 : Int32) g13; have := a_add g13 g15; have := q1; have := ashl_1 (g13 + g15); have := a_add g14 g15; omega) (hr2 := by have := a_add g14 g15; have := q3; have := a_add g13 g15; have := q1; have := ashl_1 (g13 + g15); have := a_add g12 g13; have := q0; have := a_add (0 : Int32) g13; omega) (l1 := [g3, g4, g5]) (hl_l1 := (len_q (k := 3) rfl (by decide))) (hb_l1 := (bl3 hg3 hg4 hg5)) (l2 := [g7, g8, g9]) (hl_l2 := (len_q (k := 3) rfl (by decide))) (hb_l2 := (bl3 hg7 hg8 hg9)) (l3 := gl54) (hl_l3 := hgl54) (hA := (fun h1 => hQ3 _ (by have := q5; have := a_add g13 g15; have := q0; have := a_add g12 g13; have := q3; have := a_add g14 g15; have := a_add (0 : Int32) g13; have := q1; have := ashl_1 (g13 + g15); omega))) (hB := (fun h1 h2 => by have := q5; have := a_add g13 g15; have := q0; have := a_add g12 g13; have := q3; have := a_add g14 g15; have := a_add (0 : Int32) g13; have := q1; have := ashl_1 (g13 + g15); have := hQ4 ((5 : Int32).toInt.toNat - g13.toInt.toNat) (by omega); rw [show g13.toInt.toNat + ((5 : Int32).toInt.toNat - g13.toInt.toNat) = (5 : Int32).toInt.toNat from by omega] at this; exact this)) (mp3 := m13) (mp1 := m18) (mp4 := m19) (mp2 := m12)) (by decide) pd_Ljava_lang_String_I_CII_CII_Z rfl rfl rfl rfl (by decide) (fun v D' h => ?_)
      obtain ⟨rfl, rfl⟩ := h
      show W _ _ _ _ _ _ _ _ _ _ _ _ 443 _ [(vi 1)]
      refine W.ifN at_443 (n_eq (by decide)) ?_
      refine W.iconst (1) at_446 (by decide) ?_
      refine W.goto 451 at_447 (by decide) ?_
      refine W.istore (ls' := #[iv z0, iv z1, iv z2, iv z3, iv z4, rv a2, rv a6, iv g12, iv g13, iv g14, iv g15, rv a17, rv a18, iv 1, rv a34, rv a51]) at_451 rfl ?_
      refine W.iload at_453 rfl ?_
      exact W.ireturn at_455 rfl (Or.inr (Or.inl rfl)) (nw_bool (by decide)) (by decide) rfl
     refine W.aload 12 at_284 rfl rfl ?_
     refine W.aload 11 at_286 rfl rfl ?_
     refine W.iload at_288 rfl ?_
     refine W.iload at_290 rfl ?_
     refine W.front 14 (D' := (a30, true, oStringBuilder (vr a31) (vi 0) (vi ((0 : Int32) + g13)) (vi 0)) :: (a27, false, oString (vr a28) (vi 0)) :: (a28, false, ar "" .byte []) :: (a26, true, oArrayList (vi 0) (vr (og1 Z))) :: (a18, true, oXmlElement (vr a26) (vr a19) (vr a21) (vr a23) (vi 1) .null (vr a25) (vr a30)) :: (a25, true, oArrayList (vi 0) (vr (og1 Z))) :: (a23, false, oString (vr a24) (vi 0)) :: (a24, false, ar "" .byte [(vi 120)]) :: (a21, false, oString (vr a22) (vi 0)) :: (a22, false, ar "" .byte [(vi 120)]) :: (a19, false, oString (vr a20) (vi 0)) :: (a20, false, ar "" .byte []) :: (a17, true, ar "[C" .char [(vi g7), (vi g8), (vi g9)]) :: (a2, true, ar "[C" .char [(vi g3), (vi g4), (vi g5)]) :: (a6, true, ar "[C" .char [(vi g7), (vi g8), (vi g9)]) :: (a31, true, ar "[B" .byte (lm gl33)) :: (a34, true, oString (vr a35) (vi 0)) :: (a35, true, ar "[B" .byte (lm gl37)) :: []) rfl rfl ?_
     refine W.front 15 (D' := (a31, true, ar "[B" .byte (lm gl33)) :: (a30, true, oStringBuilder (vr a31) (vi 0) (vi ((0 : Int32) + g13)) (vi 0)) :: (a27, false, oString (vr a28) (vi 0)) :: (a28, false, ar "" .byte []) :: (a26, true, oArrayList (vi 0) (vr (og1 Z))) :: (a18, true, oXmlElement (vr a26) (vr a19) (vr a21) (vr a23) (vi 1) .null (vr a25) (vr a30)) :: (a25, true, oArrayList (vi 0) (vr (og1 Z))) :: (a23, false, oString (vr a24) (vi 0)) :: (a24, false, ar "" .byte [(vi 120)]) :: (a21, false, oString (vr a22) (vi 0)) :: (a22, false, ar "" .byte [(vi 120)]) :: (a19, false, oString (vr a20) (vi 0)) :: (a20, false, ar "" .byte []) :: (a17, true, ar "[C" .char [(vi g7), (vi g8), (vi g9)]) :: (a2, true, ar "[C" .char [(vi g3), (vi g4), (vi g5)]) :: (a6, true, ar "[C" .char [(vi g7), (vi g8), (vi g9)]) :: (a34, true, oString (vr a35) (vi 0)) :: (a35, true, ar "[B" .byte (lm gl37)) :: []) rfl rfl ?_
     refine W.callV (as := [(vr a17), (vi g14), (vi g15)]) 0 [] at_292 (wq hw 81 rfl) (wq hw 82 rfl) (wq hw 84 rfl) (wq hw 84 rfl) (wq hw 83 rfl) (wq hw 4 rfl) (wq hw 85 rfl) (Hp.exa m5) (c66_appendText hw hs (hx1 := (by have := a_add g14 g15; have := q3; omega)) (hx2 := (by have := a_add g14 g15; have := q3; omega)) (hx3 := (by have := q0; have := a_add (0 : Int32) g13; have := a_add g12 g13; have := q3; omega)) (hx4 := (by have := q0; have := a_add (0 : Int32) g13; have := a_add g12 g13; have := q3; omega)) (hr0 := by have := a_add g14 g15; have := q3; omega) (hr1 := by have := q0; have := a_add (0 : Int32) g13; have := a_add g12 g13; have := q3; omega) (l1 := [g7, g8, g9]) (hl_l1 := (len_q (k := 3) rfl (by decide))) (hb_l1 := (bl3 hg7 hg8 hg9)) (l2 := gl33) (hl_l2 := hgl33) (mp1 := m3) (mp2 := m11)) (by decide) pd__CII_V rfl rfl rfl rfl (by decide) (fun v D' h => ?_)
     rcases h with ⟨a56, g57, gl59, hg57, hf58, hgl59, hp60, rfl, rfl⟩ | ⟨a61, g62, gl64, hg62, hf63, hgl64, hp65, rfl, rfl⟩
     ·
      show W _ _ _ _ _ _ _ _ _ _ _ _ 295 _ []
      refine W.aload 12 at_295 rfl rfl ?_
      refine W.callV (as := []) 0 [] at_297 (wq hw 60 rfl) (wq hw 61 rfl) (wq hw 63 rfl) (wq hw 63 rfl) (wq hw 62 rfl) (wq hw 4 rfl) (wq hw 64 rfl) (Hp.exa m5) (c39_text hw hs (hx1 := (by have := q0; have := a_add (0 : Int32) g13; have := a_add ((0 : Int32) + g13) g15; have := a_add g12 g13; have := q3; have := a_add g14 g15; omega)) (hx2 := (by have := q0; have := a_add (0 : Int32) g13; have := a_add ((0 : Int32) + g13) g15; have := a_add g12 g13; have := q3; have := a_add g14 g15; omega)) (hr0 := by have := q0; have := a_add (0 : Int32) g13; have := a_add ((0 : Int32) + g13) g15; have := a_add g12 g13; have := q3; have := a_add g14 g15; omega) (l1 := gl59) (hl_l1 := hgl59) (mp1 := m5) (mp7 := m1) (mp11 := m0)) (by decide) pd__Ljava_lang_String_ rfl rfl rfl rfl (by decide) (fun v D' h => ?_)
      rcases h with ⟨a66, a67, h1, rfl, rfl⟩ | ⟨a68, a69, h2, h3, hl70, rfl, rfl⟩
      ·
       have ih1 := t_eq h1
       show W _ _ _ _ _ _ _ _ _ _ _ _ 300 _ [(vr a66)]
       refine W.astore (ls' := #[iv z0, iv z1, iv z2, iv z3, iv z4, rv a2, rv a6, iv g12, iv g13, iv g14, iv g15, rv a17, rv a18, iv 1, rv a34, rv a66]) at_300 rfl rfl ?_
       refine W.front 1 (D' := (a66, true, oString (vr a67) (vi 0)) :: (a67, true, ar "[B" .byte (lm gl59)) :: (a56, true, ar "[B" .byte (lm gl59)) :: (a30, true, oStringBuilder (vr a56) (vi 0) (vi (((0 : Int32) + g13) + g15)) (vi 0)) :: (a27, false, oString (vr a28) (vi 0)) :: (a28, false, ar "" .byte []) :: (a26, true, oArrayList (vi 0) (vr (og1 Z))) :: (a18, true, oXmlElement (vr a26) (vr a19) (vr a21) (vr a23) (vi 1) .null (vr a25) (vr a30)) :: (a25, true, oArrayList (vi 0) (vr (og1 Z))) :: (a23, false, oString (vr a24) (vi 0)) :: (a24, false, ar "" .byte [(vi 120)]) :: (a21, false, oString (vr a22) (vi 0)) :: (a22, false, ar "" .byte [(vi 120)]) :: (a19, false, oString (vr a20) (vi 0)) :: (a20, false, ar "" .byte []) :: (a17, true, ar "[C" .char [(vi g7), (vi g8), (vi g9)]) :: (a2, true, ar "[C" .char [(vi g3), (vi g4), (vi g5)]) :: (a6, true, ar "[C" .char [(vi g7), (vi g8), (vi g9)]) :: (a34, true, oString (vr a35) (vi 0)) :: (a35, true, ar "[B" .byte (lm gl37)) :: []) rfl rfl ?_
       refine W.front 2 (D' := (a56, true, ar "[B" .byte (lm gl59)) :: (a66, true, oString (vr a67) (vi 0)) :: (a67, true, ar "[B" .byte (lm gl59)) :: (a30, true, oStringBuilder (vr a56) (vi 0) (vi (((0 : Int32) + g13) + g15)) (vi 0)) :: (a27, false, oString (vr a28) (vi 0)) :: (a28, false, ar "" .byte []) :: (a26, true, oArrayList (vi 0) (vr (og1 Z))) :: (a18, true, oXmlElement (vr a26) (vr a19) (vr a21) (vr a23) (vi 1) .null (vr a25) (vr a30)) :: (a25, true, oArrayList (vi 0) (vr (og1 Z))) :: (a23, false, oString (vr a24) (vi 0)) :: (a24, false, ar "" .byte [(vi 120)]) :: (a21, false, oString (vr a22) (vi 0)) :: (a22, false, ar "" .byte [(vi 120)]) :: (a19, false, oString (vr a20) (vi 0)) :: (a20, false, ar "" .byte []) :: (a17, true, ar "[C" .char [(vi g7), (vi g8), (vi g9)]) :: (a2, true, ar "[C" .char [(vi g3), (vi g4), (vi g5)]) :: (a6, true, ar "[C" .char [(vi g7), (vi g8), (vi g9)]) :: (a34, true, oString (vr a35) (vi 0)) :: (a35, true, ar "[B" .byte (lm gl37)) :: []) rfl rfl ?_
       refine W.front 19 (D' := (a35, true, ar "[B" .byte (lm gl37)) :: (a56, true, ar "[B" .byte (lm gl59)) :: (a66, true, oString (vr a67) (vi 0)) :: (a67, true, ar "[B" .byte (lm gl59)) :: (a30, true, oStringBuilder (vr a56) (vi 0) (vi (((0 : Int32) + g13) + g15)) (vi 0)) :: (a27, false, oString (vr a28) (vi 0)) :: (a28, false, ar "" .byte []) :: (a26, true, oArrayList (vi 0) (vr (og1 Z))) :: (a18, true, oXmlElement (vr a26) (vr a19) (vr a21) (vr a23) (vi 1) .null (vr a25) (vr a30)) :: (a25, true, oArrayList (vi 0) (vr (og1 Z))) :: (a23, false, oString (vr a24) (vi 0)) :: (a24, false, ar "" .byte [(vi 120)]) :: (a21, false, oString (vr a22) (vi 0)) :: (a22, false, ar "" .byte [(vi 120)]) :: (a19, false, oString (vr a20) (vi 0)) :: (a20, false, ar "" .byte []) :: (a17, true, ar "[C" .char [(vi g7), (vi g8), (vi g9)]) :: (a2, true, ar "[C" .char [(vi g3), (vi g4), (vi g5)]) :: (a6, true, ar "[C" .char [(vi g7), (vi g8), (vi g9)]) :: (a34, true, oString (vr a35) (vi 0)) :: []) rfl rfl ?_
       refine W.front 19 (D' := (a34, true, oString (vr a35) (vi 0)) :: (a35, true, ar "[B" .byte (lm gl37)) :: (a56, true, ar "[B" .byte (lm gl59)) :: (a66, true, oString (vr a67) (vi 0)) :: (a67, true, ar "[B" .byte (lm gl59)) :: (a30, true, oStringBuilder (vr a56) (vi 0) (vi (((0 : Int32) + g13) + g15)) (vi 0)) :: (a27, false, oString (vr a28) (vi 0)) :: (a28, false, ar "" .byte []) :: (a26, true, oArrayList (vi 0) (vr (og1 Z))) :: (a18, true, oXmlElement (vr a26) (vr a19) (vr a21) (vr a23) (vi 1) .null (vr a25) (vr a30)) :: (a25, true, oArrayList (vi 0) (vr (og1 Z))) :: (a23, false, oString (vr a24) (vi 0)) :: (a24, false, ar "" .byte [(vi 120)]) :: (a21, false, oString (vr a22) (vi 0)) :: (a22, false, ar "" .byte [(vi 120)]) :: (a19, false, oString (vr a20) (vi 0)) :: (a20, false, ar "" .byte []) :: (a17, true, ar "[C" .char [(vi g7), (vi g8), (vi g9)]) :: (a2, true, ar "[C" .char [(vi g3), (vi g4), (vi g5)]) :: (a6, true, ar "[C" .char [(vi g7), (vi g8), (vi g9)]) :: []) rfl rfl ?_
       refine W.front 5 (D' := (a30, true, oStringBuilder (vr a56) (vi 0) (vi (((0 : Int32) + g13) + g15)) (vi 0)) :: (a34, true, oString (vr a35) (vi 0)) :: (a35, true, ar "[B" .byte (lm gl37)) :: (a56, true, ar "[B" .byte (lm gl59)) :: (a66, true, oString (vr a67) (vi 0)) :: (a67, true, ar "[B" .byte (lm gl59)) :: (a27, false, oString (vr a28) (vi 0)) :: (a28, false, ar "" .byte []) :: (a26, true, oArrayList (vi 0) (vr (og1 Z))) :: (a18, true, oXmlElement (vr a26) (vr a19) (vr a21) (vr a23) (vi 1) .null (vr a25) (vr a30)) :: (a25, true, oArrayList (vi 0) (vr (og1 Z))) :: (a23, false, oString (vr a24) (vi 0)) :: (a24, false, ar "" .byte [(vi 120)]) :: (a21, false, oString (vr a22) (vi 0)) :: (a22, false, ar "" .byte [(vi 120)]) :: (a19, false, oString (vr a20) (vi 0)) :: (a20, false, ar "" .byte []) :: (a17, true, ar "[C" .char [(vi g7), (vi g8), (vi g9)]) :: (a2, true, ar "[C" .char [(vi g3), (vi g4), (vi g5)]) :: (a6, true, ar "[C" .char [(vi g7), (vi g8), (vi g9)]) :: []) rfl rfl ?_
       refine W.front 19 (D' := (a6, true, ar "[C" .char [(vi g7), (vi g8), (vi g9)]) :: (a30, true, oStringBuilder (vr a56) (vi 0) (vi (((0 : Int32) + g13) + g15)) (vi 0)) :: (a34, true, oString (vr a35) (vi 0)) :: (a35, true, ar "[B" .byte (lm gl37)) :: (a56, true, ar "[B" .byte (lm gl59)) :: (a66, true, oString (vr a67) (vi 0)) :: (a67, true, ar "[B" .byte (lm gl59)) :: (a27, false, oString (vr a28) (vi 0)) :: (a28, false, ar "" .byte []) :: (a26, true, oArrayList (vi 0) (vr (og1 Z))) :: (a18, true, oXmlElement (vr a26) (vr a19) (vr a21) (vr a23) (vi 1) .null (vr a25) (vr a30)) :: (a25, true, oArrayList (vi 0) (vr (og1 Z))) :: (a23, false, oString (vr a24) (vi 0)) :: (a24, false, ar "" .byte [(vi 120)]) :: (a21, false, oString (vr a22) (vi 0)) :: (a22, false, ar "" .byte [(vi 120)]) :: (a19, false, oString (vr a20) (vi 0)) :: (a20, false, ar "" .byte []) :: (a17, true, ar "[C" .char [(vi g7), (vi g8), (vi g9)]) :: (a2, true, ar "[C" .char [(vi g3), (vi g4), (vi g5)]) :: []) rfl rfl ?_
       refine W.front 19 (D' := (a2, true, ar "[C" .char [(vi g3), (vi g4), (vi g5)]) :: (a6, true, ar "[C" .char [(vi g7), (vi g8), (vi g9)]) :: (a30, true, oStringBuilder (vr a56) (vi 0) (vi (((0 : Int32) + g13) + g15)) (vi 0)) :: (a34, true, oString (vr a35) (vi 0)) :: (a35, true, ar "[B" .byte (lm gl37)) :: (a56, true, ar "[B" .byte (lm gl59)) :: (a66, true, oString (vr a67) (vi 0)) :: (a67, true, ar "[B" .byte (lm gl59)) :: (a27, false, oString (vr a28) (vi 0)) :: (a28, false, ar "" .byte []) :: (a26, true, oArrayList (vi 0) (vr (og1 Z))) :: (a18, true, oXmlElement (vr a26) (vr a19) (vr a21) (vr a23) (vi 1) .null (vr a25) (vr a30)) :: (a25, true, oArrayList (vi 0) (vr (og1 Z))) :: (a23, false, oString (vr a24) (vi 0)) :: (a24, false, ar "" .byte [(vi 120)]) :: (a21, false, oString (vr a22) (vi 0)) :: (a22, false, ar "" .byte [(vi 120)]) :: (a19, false, oString (vr a20) (vi 0)) :: (a20, false, ar "" .byte []) :: (a17, true, ar "[C" .char [(vi g7), (vi g8), (vi g9)]) :: []) rfl rfl ?_
       refine W.front 19 (D' := (a17, true, ar "[C" .char [(vi g7), (vi g8), (vi g9)]) :: (a2, true, ar "[C" .char [(vi g3), (vi g4), (vi g5)]) :: (a6, true, ar "[C" .char [(vi g7), (vi g8), (vi g9)]) :: (a30, true, oStringBuilder (vr a56) (vi 0) (vi (((0 : Int32) + g13) + g15)) (vi 0)) :: (a34, true, oString (vr a35) (vi 0)) :: (a35, true, ar "[B" .byte (lm gl37)) :: (a56, true, ar "[B" .byte (lm gl59)) :: (a66, true, oString (vr a67) (vi 0)) :: (a67, true, ar "[B" .byte (lm gl59)) :: (a27, false, oString (vr a28) (vi 0)) :: (a28, false, ar "" .byte []) :: (a26, true, oArrayList (vi 0) (vr (og1 Z))) :: (a18, true, oXmlElement (vr a26) (vr a19) (vr a21) (vr a23) (vi 1) .null (vr a25) (vr a30)) :: (a25, true, oArrayList (vi 0) (vr (og1 Z))) :: (a23, false, oString (vr a24) (vi 0)) :: (a24, false, ar "" .byte [(vi 120)]) :: (a21, false, oString (vr a22) (vi 0)) :: (a22, false, ar "" .byte [(vi 120)]) :: (a19, false, oString (vr a20) (vi 0)) :: (a20, false, ar "" .byte []) :: []) rfl rfl ?_
       refine W.front 19 (D' := (a20, false, ar "" .byte []) :: (a17, true, ar "[C" .char [(vi g7), (vi g8), (vi g9)]) :: (a2, true, ar "[C" .char [(vi g3), (vi g4), (vi g5)]) :: (a6, true, ar "[C" .char [(vi g7), (vi g8), (vi g9)]) :: (a30, true, oStringBuilder (vr a56) (vi 0) (vi (((0 : Int32) + g13) + g15)) (vi 0)) :: (a34, true, oString (vr a35) (vi 0)) :: (a35, true, ar "[B" .byte (lm gl37)) :: (a56, true, ar "[B" .byte (lm gl59)) :: (a66, true, oString (vr a67) (vi 0)) :: (a67, true, ar "[B" .byte (lm gl59)) :: (a27, false, oString (vr a28) (vi 0)) :: (a28, false, ar "" .byte []) :: (a26, true, oArrayList (vi 0) (vr (og1 Z))) :: (a18, true, oXmlElement (vr a26) (vr a19) (vr a21) (vr a23) (vi 1) .null (vr a25) (vr a30)) :: (a25, true, oArrayList (vi 0) (vr (og1 Z))) :: (a23, false, oString (vr a24) (vi 0)) :: (a24, false, ar "" .byte [(vi 120)]) :: (a21, false, oString (vr a22) (vi 0)) :: (a22, false, ar "" .byte [(vi 120)]) :: (a19, false, oString (vr a20) (vi 0)) :: []) rfl rfl ?_
       refine W.front 19 (D' := (a19, false, oString (vr a20) (vi 0)) :: (a20, false, ar "" .byte []) :: (a17, true, ar "[C" .char [(vi g7), (vi g8), (vi g9)]) :: (a2, true, ar "[C" .char [(vi g3), (vi g4), (vi g5)]) :: (a6, true, ar "[C" .char [(vi g7), (vi g8), (vi g9)]) :: (a30, true, oStringBuilder (vr a56) (vi 0) (vi (((0 : Int32) + g13) + g15)) (vi 0)) :: (a34, true, oString (vr a35) (vi 0)) :: (a35, true, ar "[B" .byte (lm gl37)) :: (a56, true, ar "[B" .byte (lm gl59)) :: (a66, true, oString (vr a67) (vi 0)) :: (a67, true, ar "[B" .byte (lm gl59)) :: (a27, false, oString (vr a28) (vi 0)) :: (a28, false, ar "" .byte []) :: (a26, true, oArrayList (vi 0) (vr (og1 Z))) :: (a18, true, oXmlElement (vr a26) (vr a19) (vr a21) (vr a23) (vi 1) .null (vr a25) (vr a30)) :: (a25, true, oArrayList (vi 0) (vr (og1 Z))) :: (a23, false, oString (vr a24) (vi 0)) :: (a24, false, ar "" .byte [(vi 120)]) :: (a21, false, oString (vr a22) (vi 0)) :: (a22, false, ar "" .byte [(vi 120)]) :: []) rfl rfl ?_
       refine W.front 19 (D' := (a22, false, ar "" .byte [(vi 120)]) :: (a19, false, oString (vr a20) (vi 0)) :: (a20, false, ar "" .byte []) :: (a17, true, ar "[C" .char [(vi g7), (vi g8), (vi g9)]) :: (a2, true, ar "[C" .char [(vi g3), (vi g4), (vi g5)]) :: (a6, true, ar "[C" .char [(vi g7), (vi g8), (vi g9)]) :: (a30, true, oStringBuilder (vr a56) (vi 0) (vi (((0 : Int32) + g13) + g15)) (vi 0)) :: (a34, true, oString (vr a35) (vi 0)) :: (a35, true, ar "[B" .byte (lm gl37)) :: (a56, true, ar "[B" .byte (lm gl59)) :: (a66, true, oString (vr a67) (vi 0)) :: (a67, true, ar "[B" .byte (lm gl59)) :: (a27, false, oString (vr a28) (vi 0)) :: (a28, false, ar "" .byte []) :: (a26, true, oArrayList (vi 0) (vr (og1 Z))) :: (a18, true, oXmlElement (vr a26) (vr a19) (vr a21) (vr a23) (vi 1) .null (vr a25) (vr a30)) :: (a25, true, oArrayList (vi 0) (vr (og1 Z))) :: (a23, false, oString (vr a24) (vi 0)) :: (a24, false, ar "" .byte [(vi 120)]) :: (a21, false, oString (vr a22) (vi 0)) :: []) rfl rfl ?_
       refine W.front 19 (D' := (a21, false, oString (vr a22) (vi 0)) :: (a22, false, ar "" .byte [(vi 120)]) :: (a19, false, oString (vr a20) (vi 0)) :: (a20, false, ar "" .byte []) :: (a17, true, ar "[C" .char [(vi g7), (vi g8), (vi g9)]) :: (a2, true, ar "[C" .char [(vi g3), (vi g4), (vi g5)]) :: (a6, true, ar "[C" .char [(vi g7), (vi g8), (vi g9)]) :: (a30, true, oStringBuilder (vr a56) (vi 0) (vi (((0 : Int32) + g13) + g15)) (vi 0)) :: (a34, true, oString (vr a35) (vi 0)) :: (a35, true, ar "[B" .byte (lm gl37)) :: (a56, true, ar "[B" .byte (lm gl59)) :: (a66, true, oString (vr a67) (vi 0)) :: (a67, true, ar "[B" .byte (lm gl59)) :: (a27, false, oString (vr a28) (vi 0)) :: (a28, false, ar "" .byte []) :: (a26, true, oArrayList (vi 0) (vr (og1 Z))) :: (a18, true, oXmlElement (vr a26) (vr a19) (vr a21) (vr a23) (vi 1) .null (vr a25) (vr a30)) :: (a25, true, oArrayList (vi 0) (vr (og1 Z))) :: (a23, false, oString (vr a24) (vi 0)) :: (a24, false, ar "" .byte [(vi 120)]) :: []) rfl rfl ?_
       refine W.front 19 (D' := (a24, false, ar "" .byte [(vi 120)]) :: (a21, false, oString (vr a22) (vi 0)) :: (a22, false, ar "" .byte [(vi 120)]) :: (a19, false, oString (vr a20) (vi 0)) :: (a20, false, ar "" .byte []) :: (a17, true, ar "[C" .char [(vi g7), (vi g8), (vi g9)]) :: (a2, true, ar "[C" .char [(vi g3), (vi g4), (vi g5)]) :: (a6, true, ar "[C" .char [(vi g7), (vi g8), (vi g9)]) :: (a30, true, oStringBuilder (vr a56) (vi 0) (vi (((0 : Int32) + g13) + g15)) (vi 0)) :: (a34, true, oString (vr a35) (vi 0)) :: (a35, true, ar "[B" .byte (lm gl37)) :: (a56, true, ar "[B" .byte (lm gl59)) :: (a66, true, oString (vr a67) (vi 0)) :: (a67, true, ar "[B" .byte (lm gl59)) :: (a27, false, oString (vr a28) (vi 0)) :: (a28, false, ar "" .byte []) :: (a26, true, oArrayList (vi 0) (vr (og1 Z))) :: (a18, true, oXmlElement (vr a26) (vr a19) (vr a21) (vr a23) (vi 1) .null (vr a25) (vr a30)) :: (a25, true, oArrayList (vi 0) (vr (og1 Z))) :: (a23, false, oString (vr a24) (vi 0)) :: []) rfl rfl ?_
       refine W.front 19 (D' := (a23, false, oString (vr a24) (vi 0)) :: (a24, false, ar "" .byte [(vi 120)]) :: (a21, false, oString (vr a22) (vi 0)) :: (a22, false, ar "" .byte [(vi 120)]) :: (a19, false, oString (vr a20) (vi 0)) :: (a20, false, ar "" .byte []) :: (a17, true, ar "[C" .char [(vi g7), (vi g8), (vi g9)]) :: (a2, true, ar "[C" .char [(vi g3), (vi g4), (vi g5)]) :: (a6, true, ar "[C" .char [(vi g7), (vi g8), (vi g9)]) :: (a30, true, oStringBuilder (vr a56) (vi 0) (vi (((0 : Int32) + g13) + g15)) (vi 0)) :: (a34, true, oString (vr a35) (vi 0)) :: (a35, true, ar "[B" .byte (lm gl37)) :: (a56, true, ar "[B" .byte (lm gl59)) :: (a66, true, oString (vr a67) (vi 0)) :: (a67, true, ar "[B" .byte (lm gl59)) :: (a27, false, oString (vr a28) (vi 0)) :: (a28, false, ar "" .byte []) :: (a26, true, oArrayList (vi 0) (vr (og1 Z))) :: (a18, true, oXmlElement (vr a26) (vr a19) (vr a21) (vr a23) (vi 1) .null (vr a25) (vr a30)) :: (a25, true, oArrayList (vi 0) (vr (og1 Z))) :: []) rfl rfl ?_
       refine W.front 19 (D' := (a25, true, oArrayList (vi 0) (vr (og1 Z))) :: (a23, false, oString (vr a24) (vi 0)) :: (a24, false, ar "" .byte [(vi 120)]) :: (a21, false, oString (vr a22) (vi 0)) :: (a22, false, ar "" .byte [(vi 120)]) :: (a19, false, oString (vr a20) (vi 0)) :: (a20, false, ar "" .byte []) :: (a17, true, ar "[C" .char [(vi g7), (vi g8), (vi g9)]) :: (a2, true, ar "[C" .char [(vi g3), (vi g4), (vi g5)]) :: (a6, true, ar "[C" .char [(vi g7), (vi g8), (vi g9)]) :: (a30, true, oStringBuilder (vr a56) (vi 0) (vi (((0 : Int32) + g13) + g15)) (vi 0)) :: (a34, true, oString (vr a35) (vi 0)) :: (a35, true, ar "[B" .byte (lm gl37)) :: (a56, true, ar "[B" .byte (lm gl59)) :: (a66, true, oString (vr a67) (vi 0)) :: (a67, true, ar "[B" .byte (lm gl59)) :: (a27, false, oString (vr a28) (vi 0)) :: (a28, false, ar "" .byte []) :: (a26, true, oArrayList (vi 0) (vr (og1 Z))) :: (a18, true, oXmlElement (vr a26) (vr a19) (vr a21) (vr a23) (vi 1) .null (vr a25) (vr a30)) :: []) rfl rfl ?_
       refine W.front 19 (D' := (a18, true, oXmlElement (vr a26) (vr a19) (vr a21) (vr a23) (vi 1) .null (vr a25) (vr a30)) :: (a25, true, oArrayList (vi 0) (vr (og1 Z))) :: (a23, false, oString (vr a24) (vi 0)) :: (a24, false, ar "" .byte [(vi 120)]) :: (a21, false, oString (vr a22) (vi 0)) :: (a22, false, ar "" .byte [(vi 120)]) :: (a19, false, oString (vr a20) (vi 0)) :: (a20, false, ar "" .byte []) :: (a17, true, ar "[C" .char [(vi g7), (vi g8), (vi g9)]) :: (a2, true, ar "[C" .char [(vi g3), (vi g4), (vi g5)]) :: (a6, true, ar "[C" .char [(vi g7), (vi g8), (vi g9)]) :: (a30, true, oStringBuilder (vr a56) (vi 0) (vi (((0 : Int32) + g13) + g15)) (vi 0)) :: (a34, true, oString (vr a35) (vi 0)) :: (a35, true, ar "[B" .byte (lm gl37)) :: (a56, true, ar "[B" .byte (lm gl59)) :: (a66, true, oString (vr a67) (vi 0)) :: (a67, true, ar "[B" .byte (lm gl59)) :: (a27, false, oString (vr a28) (vi 0)) :: (a28, false, ar "" .byte []) :: (a26, true, oArrayList (vi 0) (vr (og1 Z))) :: []) rfl rfl ?_
       refine W.front 19 (D' := (a26, true, oArrayList (vi 0) (vr (og1 Z))) :: (a18, true, oXmlElement (vr a26) (vr a19) (vr a21) (vr a23) (vi 1) .null (vr a25) (vr a30)) :: (a25, true, oArrayList (vi 0) (vr (og1 Z))) :: (a23, false, oString (vr a24) (vi 0)) :: (a24, false, ar "" .byte [(vi 120)]) :: (a21, false, oString (vr a22) (vi 0)) :: (a22, false, ar "" .byte [(vi 120)]) :: (a19, false, oString (vr a20) (vi 0)) :: (a20, false, ar "" .byte []) :: (a17, true, ar "[C" .char [(vi g7), (vi g8), (vi g9)]) :: (a2, true, ar "[C" .char [(vi g3), (vi g4), (vi g5)]) :: (a6, true, ar "[C" .char [(vi g7), (vi g8), (vi g9)]) :: (a30, true, oStringBuilder (vr a56) (vi 0) (vi (((0 : Int32) + g13) + g15)) (vi 0)) :: (a34, true, oString (vr a35) (vi 0)) :: (a35, true, ar "[B" .byte (lm gl37)) :: (a56, true, ar "[B" .byte (lm gl59)) :: (a66, true, oString (vr a67) (vi 0)) :: (a67, true, ar "[B" .byte (lm gl59)) :: (a27, false, oString (vr a28) (vi 0)) :: (a28, false, ar "" .byte []) :: []) rfl rfl ?_
       refine W.front 19 (D' := (a28, false, ar "" .byte []) :: (a26, true, oArrayList (vi 0) (vr (og1 Z))) :: (a18, true, oXmlElement (vr a26) (vr a19) (vr a21) (vr a23) (vi 1) .null (vr a25) (vr a30)) :: (a25, true, oArrayList (vi 0) (vr (og1 Z))) :: (a23, false, oString (vr a24) (vi 0)) :: (a24, false, ar "" .byte [(vi 120)]) :: (a21, false, oString (vr a22) (vi 0)) :: (a22, false, ar "" .byte [(vi 120)]) :: (a19, false, oString (vr a20) (vi 0)) :: (a20, false, ar "" .byte []) :: (a17, true, ar "[C" .char [(vi g7), (vi g8), (vi g9)]) :: (a2, true, ar "[C" .char [(vi g3), (vi g4), (vi g5)]) :: (a6, true, ar "[C" .char [(vi g7), (vi g8), (vi g9)]) :: (a30, true, oStringBuilder (vr a56) (vi 0) (vi (((0 : Int32) + g13) + g15)) (vi 0)) :: (a34, true, oString (vr a35) (vi 0)) :: (a35, true, ar "[B" .byte (lm gl37)) :: (a56, true, ar "[B" .byte (lm gl59)) :: (a66, true, oString (vr a67) (vi 0)) :: (a67, true, ar "[B" .byte (lm gl59)) :: (a27, false, oString (vr a28) (vi 0)) :: []) rfl rfl ?_
       refine W.front 19 (D' := (a27, false, oString (vr a28) (vi 0)) :: (a28, false, ar "" .byte []) :: (a26, true, oArrayList (vi 0) (vr (og1 Z))) :: (a18, true, oXmlElement (vr a26) (vr a19) (vr a21) (vr a23) (vi 1) .null (vr a25) (vr a30)) :: (a25, true, oArrayList (vi 0) (vr (og1 Z))) :: (a23, false, oString (vr a24) (vi 0)) :: (a24, false, ar "" .byte [(vi 120)]) :: (a21, false, oString (vr a22) (vi 0)) :: (a22, false, ar "" .byte [(vi 120)]) :: (a19, false, oString (vr a20) (vi 0)) :: (a20, false, ar "" .byte []) :: (a17, true, ar "[C" .char [(vi g7), (vi g8), (vi g9)]) :: (a2, true, ar "[C" .char [(vi g3), (vi g4), (vi g5)]) :: (a6, true, ar "[C" .char [(vi g7), (vi g8), (vi g9)]) :: (a30, true, oStringBuilder (vr a56) (vi 0) (vi (((0 : Int32) + g13) + g15)) (vi 0)) :: (a34, true, oString (vr a35) (vi 0)) :: (a35, true, ar "[B" .byte (lm gl37)) :: (a56, true, ar "[B" .byte (lm gl59)) :: (a66, true, oString (vr a67) (vi 0)) :: (a67, true, ar "[B" .byte (lm gl59)) :: []) rfl rfl ?_
       have he71 : ((0 : Int32) + g13).toInt.toNat = g13.toInt.toNat := by have := q0; have := a_add (0 : Int32) g13; have := a_add g13 g15; have := a_add ((0 : Int32) + g13) g15; have := a_add g12 g13; have := q3; have := a_add g14 g15; omega
       have hv72 := fun i hi => (hp60.1 i (he71 ▸ hi)).trans (hP4 i hi)
       have hv73 := hp60.2
       rw [he71] at hv73
       exact W.mono (by decide) (by decide) (K47 a56 g57 gl59 a66 a67 g57 gl59 hg57 hgl59 hg57 hgl59 (by have := a_add g13 g15; have := q0; have := a_add (0 : Int32) g13; have := a_add ((0 : Int32) + g13) g15; have := a_add g12 g13; have := q3; have := a_add g14 g15; omega) hv72 hv73)
      ·
       have ih2 := f_eq h2
       have ih3 := t_gt h3
       show W _ _ _ _ _ _ _ _ _ _ _ _ 300 _ [(vr a68)]
       refine W.astore (ls' := #[iv z0, iv z1, iv z2, iv z3, iv z4, rv a2, rv a6, iv g12, iv g13, iv g14, iv g15, rv a17, rv a18, iv 1, rv a34, rv a68]) at_300 rfl rfl ?_
       refine W.front 1 (D' := (a68, true, oString (vr a69) (vi 0)) :: (a69, true, ar "[B" .byte (lm (cpl gl59 (0 : Int32).toInt.toNat (List.replicate (((0 : Int32) + g13) + g15).toInt.toNat (0 : Int32)) (0 : Int32).toInt.toNat (((0 : Int32) + g13) + g15).toInt.toNat))) :: (a56, true, ar "[B" .byte (lm gl59)) :: (a30, true, oStringBuilder (vr a56) (vi 0) (vi (((0 : Int32) + g13) + g15)) (vi 0)) :: (a27, false, oString (vr a28) (vi 0)) :: (a28, false, ar "" .byte []) :: (a26, true, oArrayList (vi 0) (vr (og1 Z))) :: (a18, true, oXmlElement (vr a26) (vr a19) (vr a21) (vr a23) (vi 1) .null (vr a25) (vr a30)) :: (a25, true, oArrayList (vi 0) (vr (og1 Z))) :: (a23, false, oString (vr a24) (vi 0)) :: (a24, false, ar "" .byte [(vi 120)]) :: (a21, false, oString (vr a22) (vi 0)) :: (a22, false, ar "" .byte [(vi 120)]) :: (a19, false, oString (vr a20) (vi 0)) :: (a20, false, ar "" .byte []) :: (a17, true, ar "[C" .char [(vi g7), (vi g8), (vi g9)]) :: (a2, true, ar "[C" .char [(vi g3), (vi g4), (vi g5)]) :: (a6, true, ar "[C" .char [(vi g7), (vi g8), (vi g9)]) :: (a34, true, oString (vr a35) (vi 0)) :: (a35, true, ar "[B" .byte (lm gl37)) :: []) rfl rfl ?_
       refine W.front 2 (D' := (a56, true, ar "[B" .byte (lm gl59)) :: (a68, true, oString (vr a69) (vi 0)) :: (a69, true, ar "[B" .byte (lm (cpl gl59 (0 : Int32).toInt.toNat (List.replicate (((0 : Int32) + g13) + g15).toInt.toNat (0 : Int32)) (0 : Int32).toInt.toNat (((0 : Int32) + g13) + g15).toInt.toNat))) :: (a30, true, oStringBuilder (vr a56) (vi 0) (vi (((0 : Int32) + g13) + g15)) (vi 0)) :: (a27, false, oString (vr a28) (vi 0)) :: (a28, false, ar "" .byte []) :: (a26, true, oArrayList (vi 0) (vr (og1 Z))) :: (a18, true, oXmlElement (vr a26) (vr a19) (vr a21) (vr a23) (vi 1) .null (vr a25) (vr a30)) :: (a25, true, oArrayList (vi 0) (vr (og1 Z))) :: (a23, false, oString (vr a24) (vi 0)) :: (a24, false, ar "" .byte [(vi 120)]) :: (a21, false, oString (vr a22) (vi 0)) :: (a22, false, ar "" .byte [(vi 120)]) :: (a19, false, oString (vr a20) (vi 0)) :: (a20, false, ar "" .byte []) :: (a17, true, ar "[C" .char [(vi g7), (vi g8), (vi g9)]) :: (a2, true, ar "[C" .char [(vi g3), (vi g4), (vi g5)]) :: (a6, true, ar "[C" .char [(vi g7), (vi g8), (vi g9)]) :: (a34, true, oString (vr a35) (vi 0)) :: (a35, true, ar "[B" .byte (lm gl37)) :: []) rfl rfl ?_
       refine W.front 19 (D' := (a35, true, ar "[B" .byte (lm gl37)) :: (a56, true, ar "[B" .byte (lm gl59)) :: (a68, true, oString (vr a69) (vi 0)) :: (a69, true, ar "[B" .byte (lm (cpl gl59 (0 : Int32).toInt.toNat (List.replicate (((0 : Int32) + g13) + g15).toInt.toNat (0 : Int32)) (0 : Int32).toInt.toNat (((0 : Int32) + g13) + g15).toInt.toNat))) :: (a30, true, oStringBuilder (vr a56) (vi 0) (vi (((0 : Int32) + g13) + g15)) (vi 0)) :: (a27, false, oString (vr a28) (vi 0)) :: (a28, false, ar "" .byte []) :: (a26, true, oArrayList (vi 0) (vr (og1 Z))) :: (a18, true, oXmlElement (vr a26) (vr a19) (vr a21) (vr a23) (vi 1) .null (vr a25) (vr a30)) :: (a25, true, oArrayList (vi 0) (vr (og1 Z))) :: (a23, false, oString (vr a24) (vi 0)) :: (a24, false, ar "" .byte [(vi 120)]) :: (a21, false, oString (vr a22) (vi 0)) :: (a22, false, ar "" .byte [(vi 120)]) :: (a19, false, oString (vr a20) (vi 0)) :: (a20, false, ar "" .byte []) :: (a17, true, ar "[C" .char [(vi g7), (vi g8), (vi g9)]) :: (a2, true, ar "[C" .char [(vi g3), (vi g4), (vi g5)]) :: (a6, true, ar "[C" .char [(vi g7), (vi g8), (vi g9)]) :: (a34, true, oString (vr a35) (vi 0)) :: []) rfl rfl ?_
       refine W.front 19 (D' := (a34, true, oString (vr a35) (vi 0)) :: (a35, true, ar "[B" .byte (lm gl37)) :: (a56, true, ar "[B" .byte (lm gl59)) :: (a68, true, oString (vr a69) (vi 0)) :: (a69, true, ar "[B" .byte (lm (cpl gl59 (0 : Int32).toInt.toNat (List.replicate (((0 : Int32) + g13) + g15).toInt.toNat (0 : Int32)) (0 : Int32).toInt.toNat (((0 : Int32) + g13) + g15).toInt.toNat))) :: (a30, true, oStringBuilder (vr a56) (vi 0) (vi (((0 : Int32) + g13) + g15)) (vi 0)) :: (a27, false, oString (vr a28) (vi 0)) :: (a28, false, ar "" .byte []) :: (a26, true, oArrayList (vi 0) (vr (og1 Z))) :: (a18, true, oXmlElement (vr a26) (vr a19) (vr a21) (vr a23) (vi 1) .null (vr a25) (vr a30)) :: (a25, true, oArrayList (vi 0) (vr (og1 Z))) :: (a23, false, oString (vr a24) (vi 0)) :: (a24, false, ar "" .byte [(vi 120)]) :: (a21, false, oString (vr a22) (vi 0)) :: (a22, false, ar "" .byte [(vi 120)]) :: (a19, false, oString (vr a20) (vi 0)) :: (a20, false, ar "" .byte []) :: (a17, true, ar "[C" .char [(vi g7), (vi g8), (vi g9)]) :: (a2, true, ar "[C" .char [(vi g3), (vi g4), (vi g5)]) :: (a6, true, ar "[C" .char [(vi g7), (vi g8), (vi g9)]) :: []) rfl rfl ?_
       refine W.front 5 (D' := (a30, true, oStringBuilder (vr a56) (vi 0) (vi (((0 : Int32) + g13) + g15)) (vi 0)) :: (a34, true, oString (vr a35) (vi 0)) :: (a35, true, ar "[B" .byte (lm gl37)) :: (a56, true, ar "[B" .byte (lm gl59)) :: (a68, true, oString (vr a69) (vi 0)) :: (a69, true, ar "[B" .byte (lm (cpl gl59 (0 : Int32).toInt.toNat (List.replicate (((0 : Int32) + g13) + g15).toInt.toNat (0 : Int32)) (0 : Int32).toInt.toNat (((0 : Int32) + g13) + g15).toInt.toNat))) :: (a27, false, oString (vr a28) (vi 0)) :: (a28, false, ar "" .byte []) :: (a26, true, oArrayList (vi 0) (vr (og1 Z))) :: (a18, true, oXmlElement (vr a26) (vr a19) (vr a21) (vr a23) (vi 1) .null (vr a25) (vr a30)) :: (a25, true, oArrayList (vi 0) (vr (og1 Z))) :: (a23, false, oString (vr a24) (vi 0)) :: (a24, false, ar "" .byte [(vi 120)]) :: (a21, false, oString (vr a22) (vi 0)) :: (a22, false, ar "" .byte [(vi 120)]) :: (a19, false, oString (vr a20) (vi 0)) :: (a20, false, ar "" .byte []) :: (a17, true, ar "[C" .char [(vi g7), (vi g8), (vi g9)]) :: (a2, true, ar "[C" .char [(vi g3), (vi g4), (vi g5)]) :: (a6, true, ar "[C" .char [(vi g7), (vi g8), (vi g9)]) :: []) rfl rfl ?_
       refine W.front 19 (D' := (a6, true, ar "[C" .char [(vi g7), (vi g8), (vi g9)]) :: (a30, true, oStringBuilder (vr a56) (vi 0) (vi (((0 : Int32) + g13) + g15)) (vi 0)) :: (a34, true, oString (vr a35) (vi 0)) :: (a35, true, ar "[B" .byte (lm gl37)) :: (a56, true, ar "[B" .byte (lm gl59)) :: (a68, true, oString (vr a69) (vi 0)) :: (a69, true, ar "[B" .byte (lm (cpl gl59 (0 : Int32).toInt.toNat (List.replicate (((0 : Int32) + g13) + g15).toInt.toNat (0 : Int32)) (0 : Int32).toInt.toNat (((0 : Int32) + g13) + g15).toInt.toNat))) :: (a27, false, oString (vr a28) (vi 0)) :: (a28, false, ar "" .byte []) :: (a26, true, oArrayList (vi 0) (vr (og1 Z))) :: (a18, true, oXmlElement (vr a26) (vr a19) (vr a21) (vr a23) (vi 1) .null (vr a25) (vr a30)) :: (a25, true, oArrayList (vi 0) (vr (og1 Z))) :: (a23, false, oString (vr a24) (vi 0)) :: (a24, false, ar "" .byte [(vi 120)]) :: (a21, false, oString (vr a22) (vi 0)) :: (a22, false, ar "" .byte [(vi 120)]) :: (a19, false, oString (vr a20) (vi 0)) :: (a20, false, ar "" .byte []) :: (a17, true, ar "[C" .char [(vi g7), (vi g8), (vi g9)]) :: (a2, true, ar "[C" .char [(vi g3), (vi g4), (vi g5)]) :: []) rfl rfl ?_
       refine W.front 19 (D' := (a2, true, ar "[C" .char [(vi g3), (vi g4), (vi g5)]) :: (a6, true, ar "[C" .char [(vi g7), (vi g8), (vi g9)]) :: (a30, true, oStringBuilder (vr a56) (vi 0) (vi (((0 : Int32) + g13) + g15)) (vi 0)) :: (a34, true, oString (vr a35) (vi 0)) :: (a35, true, ar "[B" .byte (lm gl37)) :: (a56, true, ar "[B" .byte (lm gl59)) :: (a68, true, oString (vr a69) (vi 0)) :: (a69, true, ar "[B" .byte (lm (cpl gl59 (0 : Int32).toInt.toNat (List.replicate (((0 : Int32) + g13) + g15).toInt.toNat (0 : Int32)) (0 : Int32).toInt.toNat (((0 : Int32) + g13) + g15).toInt.toNat))) :: (a27, false, oString (vr a28) (vi 0)) :: (a28, false, ar "" .byte []) :: (a26, true, oArrayList (vi 0) (vr (og1 Z))) :: (a18, true, oXmlElement (vr a26) (vr a19) (vr a21) (vr a23) (vi 1) .null (vr a25) (vr a30)) :: (a25, true, oArrayList (vi 0) (vr (og1 Z))) :: (a23, false, oString (vr a24) (vi 0)) :: (a24, false, ar "" .byte [(vi 120)]) :: (a21, false, oString (vr a22) (vi 0)) :: (a22, false, ar "" .byte [(vi 120)]) :: (a19, false, oString (vr a20) (vi 0)) :: (a20, false, ar "" .byte []) :: (a17, true, ar "[C" .char [(vi g7), (vi g8), (vi g9)]) :: []) rfl rfl ?_
       refine W.front 19 (D' := (a17, true, ar "[C" .char [(vi g7), (vi g8), (vi g9)]) :: (a2, true, ar "[C" .char [(vi g3), (vi g4), (vi g5)]) :: (a6, true, ar "[C" .char [(vi g7), (vi g8), (vi g9)]) :: (a30, true, oStringBuilder (vr a56) (vi 0) (vi (((0 : Int32) + g13) + g15)) (vi 0)) :: (a34, true, oString (vr a35) (vi 0)) :: (a35, true, ar "[B" .byte (lm gl37)) :: (a56, true, ar "[B" .byte (lm gl59)) :: (a68, true, oString (vr a69) (vi 0)) :: (a69, true, ar "[B" .byte (lm (cpl gl59 (0 : Int32).toInt.toNat (List.replicate (((0 : Int32) + g13) + g15).toInt.toNat (0 : Int32)) (0 : Int32).toInt.toNat (((0 : Int32) + g13) + g15).toInt.toNat))) :: (a27, false, oString (vr a28) (vi 0)) :: (a28, false, ar "" .byte []) :: (a26, true, oArrayList (vi 0) (vr (og1 Z))) :: (a18, true, oXmlElement (vr a26) (vr a19) (vr a21) (vr a23) (vi 1) .null (vr a25) (vr a30)) :: (a25, true, oArrayList (vi 0) (vr (og1 Z))) :: (a23, false, oString (vr a24) (vi 0)) :: (a24, false, ar "" .byte [(vi 120)]) :: (a21, false, oString (vr a22) (vi 0)) :: (a22, false, ar "" .byte [(vi 120)]) :: (a19, false, oString (vr a20) (vi 0)) :: (a20, false, ar "" .byte []) :: []) rfl rfl ?_
       refine W.front 19 (D' := (a20, false, ar "" .byte []) :: (a17, true, ar "[C" .char [(vi g7), (vi g8), (vi g9)]) :: (a2, true, ar "[C" .char [(vi g3), (vi g4), (vi g5)]) :: (a6, true, ar "[C" .char [(vi g7), (vi g8), (vi g9)]) :: (a30, true, oStringBuilder (vr a56) (vi 0) (vi (((0 : Int32) + g13) + g15)) (vi 0)) :: (a34, true, oString (vr a35) (vi 0)) :: (a35, true, ar "[B" .byte (lm gl37)) :: (a56, true, ar "[B" .byte (lm gl59)) :: (a68, true, oString (vr a69) (vi 0)) :: (a69, true, ar "[B" .byte (lm (cpl gl59 (0 : Int32).toInt.toNat (List.replicate (((0 : Int32) + g13) + g15).toInt.toNat (0 : Int32)) (0 : Int32).toInt.toNat (((0 : Int32) + g13) + g15).toInt.toNat))) :: (a27, false, oString (vr a28) (vi 0)) :: (a28, false, ar "" .byte []) :: (a26, true, oArrayList (vi 0) (vr (og1 Z))) :: (a18, true, oXmlElement (vr a26) (vr a19) (vr a21) (vr a23) (vi 1) .null (vr a25) (vr a30)) :: (a25, true, oArrayList (vi 0) (vr (og1 Z))) :: (a23, false, oString (vr a24) (vi 0)) :: (a24, false, ar "" .byte [(vi 120)]) :: (a21, false, oString (vr a22) (vi 0)) :: (a22, false, ar "" .byte [(vi 120)]) :: (a19, false, oString (vr a20) (vi 0)) :: []) rfl rfl ?_
       refine W.front 19 (D' := (a19, false, oString (vr a20) (vi 0)) :: (a20, false, ar "" .byte []) :: (a17, true, ar "[C" .char [(vi g7), (vi g8), (vi g9)]) :: (a2, true, ar "[C" .char [(vi g3), (vi g4), (vi g5)]) :: (a6, true, ar "[C" .char [(vi g7), (vi g8), (vi g9)]) :: (a30, true, oStringBuilder (vr a56) (vi 0) (vi (((0 : Int32) + g13) + g15)) (vi 0)) :: (a34, true, oString (vr a35) (vi 0)) :: (a35, true, ar "[B" .byte (lm gl37)) :: (a56, true, ar "[B" .byte (lm gl59)) :: (a68, true, oString (vr a69) (vi 0)) :: (a69, true, ar "[B" .byte (lm (cpl gl59 (0 : Int32).toInt.toNat (List.replicate (((0 : Int32) + g13) + g15).toInt.toNat (0 : Int32)) (0 : Int32).toInt.toNat (((0 : Int32) + g13) + g15).toInt.toNat))) :: (a27, false, oString (vr a28) (vi 0)) :: (a28, false, ar "" .byte []) :: (a26, true, oArrayList (vi 0) (vr (og1 Z))) :: (a18, true, oXmlElement (vr a26) (vr a19) (vr a21) (vr a23) (vi 1) .null (vr a25) (vr a30)) :: (a25, true, oArrayList (vi 0) (vr (og1 Z))) :: (a23, false, oString (vr a24) (vi 0)) :: (a24, false, ar "" .byte [(vi 120)]) :: (a21, false, oString (vr a22) (vi 0)) :: (a22, false, ar "" .byte [(vi 120)]) :: []) rfl rfl ?_
       refine W.front 19 (D' := (a22, false, ar "" .byte [(vi 120)]) :: (a19, false, oString (vr a20) (vi 0)) :: (a20, false, ar "" .byte []) :: (a17, true, ar "[C" .char [(vi g7), (vi g8), (vi g9)]) :: (a2, true, ar "[C" .char [(vi g3), (vi g4), (vi g5)]) :: (a6, true, ar "[C" .char [(vi g7), (vi g8), (vi g9)]) :: (a30, true, oStringBuilder (vr a56) (vi 0) (vi (((0 : Int32) + g13) + g15)) (vi 0)) :: (a34, true, oString (vr a35) (vi 0)) :: (a35, true, ar "[B" .byte (lm gl37)) :: (a56, true, ar "[B" .byte (lm gl59)) :: (a68, true, oString (vr a69) (vi 0)) :: (a69, true, ar "[B" .byte (lm (cpl gl59 (0 : Int32).toInt.toNat (List.replicate (((0 : Int32) + g13) + g15).toInt.toNat (0 : Int32)) (0 : Int32).toInt.toNat (((0 : Int32) + g13) + g15).toInt.toNat))) :: (a27, false, oString (vr a28) (vi 0)) :: (a28, false, ar "" .byte []) :: (a26, true, oArrayList (vi 0) (vr (og1 Z))) :: (a18, true, oXmlElement (vr a26) (vr a19) (vr a21) (vr a23) (vi 1) .null (vr a25) (vr a30)) :: (a25, true, oArrayList (vi 0) (vr (og1 Z))) :: (a23, false, oString (vr a24) (vi 0)) :: (a24, false, ar "" .byte [(vi 120)]) :: (a21, false, oString (vr a22) (vi 0)) :: []) rfl rfl ?_
       refine W.front 19 (D' := (a21, false, oString (vr a22) (vi 0)) :: (a22, false, ar "" .byte [(vi 120)]) :: (a19, false, oString (vr a20) (vi 0)) :: (a20, false, ar "" .byte []) :: (a17, true, ar "[C" .char [(vi g7), (vi g8), (vi g9)]) :: (a2, true, ar "[C" .char [(vi g3), (vi g4), (vi g5)]) :: (a6, true, ar "[C" .char [(vi g7), (vi g8), (vi g9)]) :: (a30, true, oStringBuilder (vr a56) (vi 0) (vi (((0 : Int32) + g13) + g15)) (vi 0)) :: (a34, true, oString (vr a35) (vi 0)) :: (a35, true, ar "[B" .byte (lm gl37)) :: (a56, true, ar "[B" .byte (lm gl59)) :: (a68, true, oString (vr a69) (vi 0)) :: (a69, true, ar "[B" .byte (lm (cpl gl59 (0 : Int32).toInt.toNat (List.replicate (((0 : Int32) + g13) + g15).toInt.toNat (0 : Int32)) (0 : Int32).toInt.toNat (((0 : Int32) + g13) + g15).toInt.toNat))) :: (a27, false, oString (vr a28) (vi 0)) :: (a28, false, ar "" .byte []) :: (a26, true, oArrayList (vi 0) (vr (og1 Z))) :: (a18, true, oXmlElement (vr a26) (vr a19) (vr a21) (vr a23) (vi 1) .null (vr a25) (vr a30)) :: (a25, true, oArrayList (vi 0) (vr (og1 Z))) :: (a23, false, oString (vr a24) (vi 0)) :: (a24, false, ar "" .byte [(vi 120)]) :: []) rfl rfl ?_
       refine W.front 19 (D' := (a24, false, ar "" .byte [(vi 120)]) :: (a21, false, oString (vr a22) (vi 0)) :: (a22, false, ar "" .byte [(vi 120)]) :: (a19, false, oString (vr a20) (vi 0)) :: (a20, false, ar "" .byte []) :: (a17, true, ar "[C" .char [(vi g7), (vi g8), (vi g9)]) :: (a2, true, ar "[C" .char [(vi g3), (vi g4), (vi g5)]) :: (a6, true, ar "[C" .char [(vi g7), (vi g8), (vi g9)]) :: (a30, true, oStringBuilder (vr a56) (vi 0) (vi (((0 : Int32) + g13) + g15)) (vi 0)) :: (a34, true, oString (vr a35) (vi 0)) :: (a35, true, ar "[B" .byte (lm gl37)) :: (a56, true, ar "[B" .byte (lm gl59)) :: (a68, true, oString (vr a69) (vi 0)) :: (a69, true, ar "[B" .byte (lm (cpl gl59 (0 : Int32).toInt.toNat (List.replicate (((0 : Int32) + g13) + g15).toInt.toNat (0 : Int32)) (0 : Int32).toInt.toNat (((0 : Int32) + g13) + g15).toInt.toNat))) :: (a27, false, oString (vr a28) (vi 0)) :: (a28, false, ar "" .byte []) :: (a26, true, oArrayList (vi 0) (vr (og1 Z))) :: (a18, true, oXmlElement (vr a26) (vr a19) (vr a21) (vr a23) (vi 1) .null (vr a25) (vr a30)) :: (a25, true, oArrayList (vi 0) (vr (og1 Z))) :: (a23, false, oString (vr a24) (vi 0)) :: []) rfl rfl ?_
       refine W.front 19 (D' := (a23, false, oString (vr a24) (vi 0)) :: (a24, false, ar "" .byte [(vi 120)]) :: (a21, false, oString (vr a22) (vi 0)) :: (a22, false, ar "" .byte [(vi 120)]) :: (a19, false, oString (vr a20) (vi 0)) :: (a20, false, ar "" .byte []) :: (a17, true, ar "[C" .char [(vi g7), (vi g8), (vi g9)]) :: (a2, true, ar "[C" .char [(vi g3), (vi g4), (vi g5)]) :: (a6, true, ar "[C" .char [(vi g7), (vi g8), (vi g9)]) :: (a30, true, oStringBuilder (vr a56) (vi 0) (vi (((0 : Int32) + g13) + g15)) (vi 0)) :: (a34, true, oString (vr a35) (vi 0)) :: (a35, true, ar "[B" .byte (lm gl37)) :: (a56, true, ar "[B" .byte (lm gl59)) :: (a68, true, oString (vr a69) (vi 0)) :: (a69, true, ar "[B" .byte (lm (cpl gl59 (0 : Int32).toInt.toNat (List.replicate (((0 : Int32) + g13) + g15).toInt.toNat (0 : Int32)) (0 : Int32).toInt.toNat (((0 : Int32) + g13) + g15).toInt.toNat))) :: (a27, false, oString (vr a28) (vi 0)) :: (a28, false, ar "" .byte []) :: (a26, true, oArrayList (vi 0) (vr (og1 Z))) :: (a18, true, oXmlElement (vr a26) (vr a19) (vr a21) (vr a23) (vi 1) .null (vr a25) (vr a30)) :: (a25, true, oArrayList (vi 0) (vr (og1 Z))) :: []) rfl rfl ?_
       refine W.front 19 (D' := (a25, true, oArrayList (vi 0) (vr (og1 Z))) :: (a23, false, oString (vr a24) (vi 0)) :: (a24, false, ar "" .byte [(vi 120)]) :: (a21, false, oString (vr a22) (vi 0)) :: (a22, false, ar "" .byte [(vi 120)]) :: (a19, false, oString (vr a20) (vi 0)) :: (a20, false, ar "" .byte []) :: (a17, true, ar "[C" .char [(vi g7), (vi g8), (vi g9)]) :: (a2, true, ar "[C" .char [(vi g3), (vi g4), (vi g5)]) :: (a6, true, ar "[C" .char [(vi g7), (vi g8), (vi g9)]) :: (a30, true, oStringBuilder (vr a56) (vi 0) (vi (((0 : Int32) + g13) + g15)) (vi 0)) :: (a34, true, oString (vr a35) (vi 0)) :: (a35, true, ar "[B" .byte (lm gl37)) :: (a56, true, ar "[B" .byte (lm gl59)) :: (a68, true, oString (vr a69) (vi 0)) :: (a69, true, ar "[B" .byte (lm (cpl gl59 (0 : Int32).toInt.toNat (List.replicate (((0 : Int32) + g13) + g15).toInt.toNat (0 : Int32)) (0 : Int32).toInt.toNat (((0 : Int32) + g13) + g15).toInt.toNat))) :: (a27, false, oString (vr a28) (vi 0)) :: (a28, false, ar "" .byte []) :: (a26, true, oArrayList (vi 0) (vr (og1 Z))) :: (a18, true, oXmlElement (vr a26) (vr a19) (vr a21) (vr a23) (vi 1) .null (vr a25) (vr a30)) :: []) rfl rfl ?_
       refine W.front 19 (D' := (a18, true, oXmlElement (vr a26) (vr a19) (vr a21) (vr a23) (vi 1) .null (vr a25) (vr a30)) :: (a25, true, oArrayList (vi 0) (vr (og1 Z))) :: (a23, false, oString (vr a24) (vi 0)) :: (a24, false, ar "" .byte [(vi 120)]) :: (a21, false, oString (vr a22) (vi 0)) :: (a22, false, ar "" .byte [(vi 120)]) :: (a19, false, oString (vr a20) (vi 0)) :: (a20, false, ar "" .byte []) :: (a17, true, ar "[C" .char [(vi g7), (vi g8), (vi g9)]) :: (a2, true, ar "[C" .char [(vi g3), (vi g4), (vi g5)]) :: (a6, true, ar "[C" .char [(vi g7), (vi g8), (vi g9)]) :: (a30, true, oStringBuilder (vr a56) (vi 0) (vi (((0 : Int32) + g13) + g15)) (vi 0)) :: (a34, true, oString (vr a35) (vi 0)) :: (a35, true, ar "[B" .byte (lm gl37)) :: (a56, true, ar "[B" .byte (lm gl59)) :: (a68, true, oString (vr a69) (vi 0)) :: (a69, true, ar "[B" .byte (lm (cpl gl59 (0 : Int32).toInt.toNat (List.replicate (((0 : Int32) + g13) + g15).toInt.toNat (0 : Int32)) (0 : Int32).toInt.toNat (((0 : Int32) + g13) + g15).toInt.toNat))) :: (a27, false, oString (vr a28) (vi 0)) :: (a28, false, ar "" .byte []) :: (a26, true, oArrayList (vi 0) (vr (og1 Z))) :: []) rfl rfl ?_
       refine W.front 19 (D' := (a26, true, oArrayList (vi 0) (vr (og1 Z))) :: (a18, true, oXmlElement (vr a26) (vr a19) (vr a21) (vr a23) (vi 1) .null (vr a25) (vr a30)) :: (a25, true, oArrayList (vi 0) (vr (og1 Z))) :: (a23, false, oString (vr a24) (vi 0)) :: (a24, false, ar "" .byte [(vi 120)]) :: (a21, false, oString (vr a22) (vi 0)) :: (a22, false, ar "" .byte [(vi 120)]) :: (a19, false, oString (vr a20) (vi 0)) :: (a20, false, ar "" .byte []) :: (a17, true, ar "[C" .char [(vi g7), (vi g8), (vi g9)]) :: (a2, true, ar "[C" .char [(vi g3), (vi g4), (vi g5)]) :: (a6, true, ar "[C" .char [(vi g7), (vi g8), (vi g9)]) :: (a30, true, oStringBuilder (vr a56) (vi 0) (vi (((0 : Int32) + g13) + g15)) (vi 0)) :: (a34, true, oString (vr a35) (vi 0)) :: (a35, true, ar "[B" .byte (lm gl37)) :: (a56, true, ar "[B" .byte (lm gl59)) :: (a68, true, oString (vr a69) (vi 0)) :: (a69, true, ar "[B" .byte (lm (cpl gl59 (0 : Int32).toInt.toNat (List.replicate (((0 : Int32) + g13) + g15).toInt.toNat (0 : Int32)) (0 : Int32).toInt.toNat (((0 : Int32) + g13) + g15).toInt.toNat))) :: (a27, false, oString (vr a28) (vi 0)) :: (a28, false, ar "" .byte []) :: []) rfl rfl ?_
       refine W.front 19 (D' := (a28, false, ar "" .byte []) :: (a26, true, oArrayList (vi 0) (vr (og1 Z))) :: (a18, true, oXmlElement (vr a26) (vr a19) (vr a21) (vr a23) (vi 1) .null (vr a25) (vr a30)) :: (a25, true, oArrayList (vi 0) (vr (og1 Z))) :: (a23, false, oString (vr a24) (vi 0)) :: (a24, false, ar "" .byte [(vi 120)]) :: (a21, false, oString (vr a22) (vi 0)) :: (a22, false, ar "" .byte [(vi 120)]) :: (a19, false, oString (vr a20) (vi 0)) :: (a20, false, ar "" .byte []) :: (a17, true, ar "[C" .char [(vi g7), (vi g8), (vi g9)]) :: (a2, true, ar "[C" .char [(vi g3), (vi g4), (vi g5)]) :: (a6, true, ar "[C" .char [(vi g7), (vi g8), (vi g9)]) :: (a30, true, oStringBuilder (vr a56) (vi 0) (vi (((0 : Int32) + g13) + g15)) (vi 0)) :: (a34, true, oString (vr a35) (vi 0)) :: (a35, true, ar "[B" .byte (lm gl37)) :: (a56, true, ar "[B" .byte (lm gl59)) :: (a68, true, oString (vr a69) (vi 0)) :: (a69, true, ar "[B" .byte (lm (cpl gl59 (0 : Int32).toInt.toNat (List.replicate (((0 : Int32) + g13) + g15).toInt.toNat (0 : Int32)) (0 : Int32).toInt.toNat (((0 : Int32) + g13) + g15).toInt.toNat))) :: (a27, false, oString (vr a28) (vi 0)) :: []) rfl rfl ?_
       refine W.front 19 (D' := (a27, false, oString (vr a28) (vi 0)) :: (a28, false, ar "" .byte []) :: (a26, true, oArrayList (vi 0) (vr (og1 Z))) :: (a18, true, oXmlElement (vr a26) (vr a19) (vr a21) (vr a23) (vi 1) .null (vr a25) (vr a30)) :: (a25, true, oArrayList (vi 0) (vr (og1 Z))) :: (a23, false, oString (vr a24) (vi 0)) :: (a24, false, ar "" .byte [(vi 120)]) :: (a21, false, oString (vr a22) (vi 0)) :: (a22, false, ar "" .byte [(vi 120)]) :: (a19, false, oString (vr a20) (vi 0)) :: (a20, false, ar "" .byte []) :: (a17, true, ar "[C" .char [(vi g7), (vi g8), (vi g9)]) :: (a2, true, ar "[C" .char [(vi g3), (vi g4), (vi g5)]) :: (a6, true, ar "[C" .char [(vi g7), (vi g8), (vi g9)]) :: (a30, true, oStringBuilder (vr a56) (vi 0) (vi (((0 : Int32) + g13) + g15)) (vi 0)) :: (a34, true, oString (vr a35) (vi 0)) :: (a35, true, ar "[B" .byte (lm gl37)) :: (a56, true, ar "[B" .byte (lm gl59)) :: (a68, true, oString (vr a69) (vi 0)) :: (a69, true, ar "[B" .byte (lm (cpl gl59 (0 : Int32).toInt.toNat (List.replicate (((0 : Int32) + g13) + g15).toInt.toNat (0 : Int32)) (0 : Int32).toInt.toNat (((0 : Int32) + g13) + g15).toInt.toNat))) :: []) rfl rfl ?_
       have he74 : ((0 : Int32) + g13).toInt.toNat = g13.toInt.toNat := by have := q0; have := a_add (0 : Int32) g13; have := a_add g13 g15; have := a_add ((0 : Int32) + g13) g15; have := a_add g12 g13; have := q3; have := a_add g14 g15; omega
       have hv75 := fun i hi => (hp60.1 i (he74 ▸ hi)).trans (hP4 i hi)
       have hv76 := hp60.2
       rw [he74] at hv76
       exact W.mono (by decide) (by decide) (K47 a56 g57 gl59 a68 a69 (((0 : Int32) + g13) + g15) (cpl gl59 (0 : Int32).toInt.toNat (List.replicate (((0 : Int32) + g13) + g15).toInt.toNat (0 : Int32)) (0 : Int32).toInt.toNat (((0 : Int32) + g13) + g15).toInt.toNat) hg57 hgl59 (by have := q0; have := a_add (0 : Int32) g13; have := a_add ((0 : Int32) + g13) g15; have := a_add g12 g13; have := q3; have := a_add g14 g15; omega) hl70 (by have := q0; have := a_add (0 : Int32) g13; have := a_add ((0 : Int32) + g13) g15; have := a_add g13 g15; have := a_add g12 g13; have := q3; have := a_add g14 g15; omega) (fun i hi => (dc_cplI (by have := q0; have := a_add (0 : Int32) g13; have := a_add ((0 : Int32) + g13) g15; have := a_add g13 g15; have := a_add g12 g13; have := q3; have := a_add g14 g15; omega) (by have := hgl59; have := q0; have := a_add (0 : Int32) g13; have := a_add ((0 : Int32) + g13) g15; have := a_add g13 g15; have := a_add g12 g13; have := q3; have := a_add g14 g15; omega) (by have := len_rep (z := (((0 : Int32) + g13) + g15)) (by have := q0; have := a_add (0 : Int32) g13; have := a_add ((0 : Int32) + g13) g15; have := a_add g13 g15; have := a_add g12 g13; have := q3; have := a_add g14 g15; omega); have := q0; have := a_add (0 : Int32) g13; have := a_add ((0 : Int32) + g13) g15; have := a_add g13 g15; have := a_add g12 g13; have := q3; have := a_add g14 g15; omega)).trans (hv75 i hi)) (fun i hi => (dc_cplI (by have := q0; have := a_add (0 : Int32) g13; have := a_add ((0 : Int32) + g13) g15; have := a_add g13 g15; have := a_add g12 g13; have := q3; have := a_add g14 g15; omega) (by have := hgl59; have := q0; have := a_add (0 : Int32) g13; have := a_add ((0 : Int32) + g13) g15; have := a_add g13 g15; have := a_add g12 g13; have := q3; have := a_add g14 g15; omega) (by have := len_rep (z := (((0 : Int32) + g13) + g15)) (by have := q0; have := a_add (0 : Int32) g13; have := a_add ((0 : Int32) + g13) g15; have := a_add g13 g15; have := a_add g12 g13; have := q3; have := a_add g14 g15; omega); have := q0; have := a_add (0 : Int32) g13; have := a_add ((0 : Int32) + g13) g15; have := a_add g13 g15; have := a_add g12 g13; have := q3; have := a_add g14 g15; omega)).trans (hv76 i hi)))
     ·
      show W _ _ _ _ _ _ _ _ _ _ _ _ 295 _ []
      refine W.aload 12 at_295 rfl rfl ?_
      refine W.callV (as := []) 0 [] at_297 (wq hw 60 rfl) (wq hw 61 rfl) (wq hw 63 rfl) (wq hw 63 rfl) (wq hw 62 rfl) (wq hw 4 rfl) (wq hw 64 rfl) (Hp.exa m5) (c74_text hw hs (hx1 := (by have := q0; have := a_add (0 : Int32) g13; have := a_add ((0 : Int32) + g13) g15; have := a_add g12 g13; have := q3; have := a_add g14 g15; omega)) (hx2 := (by have := q1; have := ashl_1 g62; have := q0; have := a_add (0 : Int32) g13; have := a_add ((0 : Int32) + g13) g15; have := a_add g12 g13; have := q3; have := a_add g14 g15; omega)) (hr0 := by have := q0; have := a_add (0 : Int32) g13; have := a_add ((0 : Int32) + g13) g15; have := q1; have := ashl_1 g62; have := ashr_1 (g62 <<< ((1 : Int32) &&& 31)); have := a_add g12 g13; have := q3; have := a_add g14 g15; omega) (l1 := gl64) (hl_l1 := hgl64) (mp1 := m5) (mp7 := m1) (mp11 := m0)) (by decide) pd__Ljava_lang_String_ rfl rfl rfl rfl (by decide) (fun v D' h => ?_)
      rcases h with ⟨a77, a78, h4, rfl, rfl⟩ | ⟨a79, a80, h5, h6, hl81, rfl, rfl⟩
      ·
       have ih4 := t_eq h4
       show W _ _ _ _ _ _ _ _ _ _ _ _ 300 _ [(vr a77)]
       refine W.astore (ls' := #[iv z0, iv z1, iv z2, iv z3, iv z4, rv a2, rv a6, iv g12, iv g13, iv g14, iv g15, rv a17, rv a18, iv 1, rv a34, rv a77]) at_300 rfl rfl ?_
       refine W.front 1 (D' := (a77, true, oString (vr a78) (vi 1)) :: (a78, true, ar "[B" .byte (lm gl64)) :: (a61, true, ar "[B" .byte (lm gl64)) :: (a30, true, oStringBuilder (vr a61) (vi 1) (vi (((0 : Int32) + g13) + g15)) (vi 0)) :: (a27, false, oString (vr a28) (vi 0)) :: (a28, false, ar "" .byte []) :: (a26, true, oArrayList (vi 0) (vr (og1 Z))) :: (a18, true, oXmlElement (vr a26) (vr a19) (vr a21) (vr a23) (vi 1) .null (vr a25) (vr a30)) :: (a25, true, oArrayList (vi 0) (vr (og1 Z))) :: (a23, false, oString (vr a24) (vi 0)) :: (a24, false, ar "" .byte [(vi 120)]) :: (a21, false, oString (vr a22) (vi 0)) :: (a22, false, ar "" .byte [(vi 120)]) :: (a19, false, oString (vr a20) (vi 0)) :: (a20, false, ar "" .byte []) :: (a17, true, ar "[C" .char [(vi g7), (vi g8), (vi g9)]) :: (a2, true, ar "[C" .char [(vi g3), (vi g4), (vi g5)]) :: (a6, true, ar "[C" .char [(vi g7), (vi g8), (vi g9)]) :: (a34, true, oString (vr a35) (vi 0)) :: (a35, true, ar "[B" .byte (lm gl37)) :: []) rfl rfl ?_
       refine W.front 2 (D' := (a61, true, ar "[B" .byte (lm gl64)) :: (a77, true, oString (vr a78) (vi 1)) :: (a78, true, ar "[B" .byte (lm gl64)) :: (a30, true, oStringBuilder (vr a61) (vi 1) (vi (((0 : Int32) + g13) + g15)) (vi 0)) :: (a27, false, oString (vr a28) (vi 0)) :: (a28, false, ar "" .byte []) :: (a26, true, oArrayList (vi 0) (vr (og1 Z))) :: (a18, true, oXmlElement (vr a26) (vr a19) (vr a21) (vr a23) (vi 1) .null (vr a25) (vr a30)) :: (a25, true, oArrayList (vi 0) (vr (og1 Z))) :: (a23, false, oString (vr a24) (vi 0)) :: (a24, false, ar "" .byte [(vi 120)]) :: (a21, false, oString (vr a22) (vi 0)) :: (a22, false, ar "" .byte [(vi 120)]) :: (a19, false, oString (vr a20) (vi 0)) :: (a20, false, ar "" .byte []) :: (a17, true, ar "[C" .char [(vi g7), (vi g8), (vi g9)]) :: (a2, true, ar "[C" .char [(vi g3), (vi g4), (vi g5)]) :: (a6, true, ar "[C" .char [(vi g7), (vi g8), (vi g9)]) :: (a34, true, oString (vr a35) (vi 0)) :: (a35, true, ar "[B" .byte (lm gl37)) :: []) rfl rfl ?_
       refine W.front 19 (D' := (a35, true, ar "[B" .byte (lm gl37)) :: (a61, true, ar "[B" .byte (lm gl64)) :: (a77, true, oString (vr a78) (vi 1)) :: (a78, true, ar "[B" .byte (lm gl64)) :: (a30, true, oStringBuilder (vr a61) (vi 1) (vi (((0 : Int32) + g13) + g15)) (vi 0)) :: (a27, false, oString (vr a28) (vi 0)) :: (a28, false, ar "" .byte []) :: (a26, true, oArrayList (vi 0) (vr (og1 Z))) :: (a18, true, oXmlElement (vr a26) (vr a19) (vr a21) (vr a23) (vi 1) .null (vr a25) (vr a30)) :: (a25, true, oArrayList (vi 0) (vr (og1 Z))) :: (a23, false, oString (vr a24) (vi 0)) :: (a24, false, ar "" .byte [(vi 120)]) :: (a21, false, oString (vr a22) (vi 0)) :: (a22, false, ar "" .byte [(vi 120)]) :: (a19, false, oString (vr a20) (vi 0)) :: (a20, false, ar "" .byte []) :: (a17, true, ar "[C" .char [(vi g7), (vi g8), (vi g9)]) :: (a2, true, ar "[C" .char [(vi g3), (vi g4), (vi g5)]) :: (a6, true, ar "[C" .char [(vi g7), (vi g8), (vi g9)]) :: (a34, true, oString (vr a35) (vi 0)) :: []) rfl rfl ?_
       refine W.front 19 (D' := (a34, true, oString (vr a35) (vi 0)) :: (a35, true, ar "[B" .byte (lm gl37)) :: (a61, true, ar "[B" .byte (lm gl64)) :: (a77, true, oString (vr a78) (vi 1)) :: (a78, true, ar "[B" .byte (lm gl64)) :: (a30, true, oStringBuilder (vr a61) (vi 1) (vi (((0 : Int32) + g13) + g15)) (vi 0)) :: (a27, false, oString (vr a28) (vi 0)) :: (a28, false, ar "" .byte []) :: (a26, true, oArrayList (vi 0) (vr (og1 Z))) :: (a18, true, oXmlElement (vr a26) (vr a19) (vr a21) (vr a23) (vi 1) .null (vr a25) (vr a30)) :: (a25, true, oArrayList (vi 0) (vr (og1 Z))) :: (a23, false, oString (vr a24) (vi 0)) :: (a24, false, ar "" .byte [(vi 120)]) :: (a21, false, oString (vr a22) (vi 0)) :: (a22, false, ar "" .byte [(vi 120)]) :: (a19, false, oString (vr a20) (vi 0)) :: (a20, false, ar "" .byte []) :: (a17, true, ar "[C" .char [(vi g7), (vi g8), (vi g9)]) :: (a2, true, ar "[C" .char [(vi g3), (vi g4), (vi g5)]) :: (a6, true, ar "[C" .char [(vi g7), (vi g8), (vi g9)]) :: []) rfl rfl ?_
       refine W.front 5 (D' := (a30, true, oStringBuilder (vr a61) (vi 1) (vi (((0 : Int32) + g13) + g15)) (vi 0)) :: (a34, true, oString (vr a35) (vi 0)) :: (a35, true, ar "[B" .byte (lm gl37)) :: (a61, true, ar "[B" .byte (lm gl64)) :: (a77, true, oString (vr a78) (vi 1)) :: (a78, true, ar "[B" .byte (lm gl64)) :: (a27, false, oString (vr a28) (vi 0)) :: (a28, false, ar "" .byte []) :: (a26, true, oArrayList (vi 0) (vr (og1 Z))) :: (a18, true, oXmlElement (vr a26) (vr a19) (vr a21) (vr a23) (vi 1) .null (vr a25) (vr a30)) :: (a25, true, oArrayList (vi 0) (vr (og1 Z))) :: (a23, false, oString (vr a24) (vi 0)) :: (a24, false, ar "" .byte [(vi 120)]) :: (a21, false, oString (vr a22) (vi 0)) :: (a22, false, ar "" .byte [(vi 120)]) :: (a19, false, oString (vr a20) (vi 0)) :: (a20, false, ar "" .byte []) :: (a17, true, ar "[C" .char [(vi g7), (vi g8), (vi g9)]) :: (a2, true, ar "[C" .char [(vi g3), (vi g4), (vi g5)]) :: (a6, true, ar "[C" .char [(vi g7), (vi g8), (vi g9)]) :: []) rfl rfl ?_
       refine W.front 19 (D' := (a6, true, ar "[C" .char [(vi g7), (vi g8), (vi g9)]) :: (a30, true, oStringBuilder (vr a61) (vi 1) (vi (((0 : Int32) + g13) + g15)) (vi 0)) :: (a34, true, oString (vr a35) (vi 0)) :: (a35, true, ar "[B" .byte (lm gl37)) :: (a61, true, ar "[B" .byte (lm gl64)) :: (a77, true, oString (vr a78) (vi 1)) :: (a78, true, ar "[B" .byte (lm gl64)) :: (a27, false, oString (vr a28) (vi 0)) :: (a28, false, ar "" .byte []) :: (a26, true, oArrayList (vi 0) (vr (og1 Z))) :: (a18, true, oXmlElement (vr a26) (vr a19) (vr a21) (vr a23) (vi 1) .null (vr a25) (vr a30)) :: (a25, true, oArrayList (vi 0) (vr (og1 Z))) :: (a23, false, oString (vr a24) (vi 0)) :: (a24, false, ar "" .byte [(vi 120)]) :: (a21, false, oString (vr a22) (vi 0)) :: (a22, false, ar "" .byte [(vi 120)]) :: (a19, false, oString (vr a20) (vi 0)) :: (a20, false, ar "" .byte []) :: (a17, true, ar "[C" .char [(vi g7), (vi g8), (vi g9)]) :: (a2, true, ar "[C" .char [(vi g3), (vi g4), (vi g5)]) :: []) rfl rfl ?_
       refine W.front 19 (D' := (a2, true, ar "[C" .char [(vi g3), (vi g4), (vi g5)]) :: (a6, true, ar "[C" .char [(vi g7), (vi g8), (vi g9)]) :: (a30, true, oStringBuilder (vr a61) (vi 1) (vi (((0 : Int32) + g13) + g15)) (vi 0)) :: (a34, true, oString (vr a35) (vi 0)) :: (a35, true, ar "[B" .byte (lm gl37)) :: (a61, true, ar "[B" .byte (lm gl64)) :: (a77, true, oString (vr a78) (vi 1)) :: (a78, true, ar "[B" .byte (lm gl64)) :: (a27, false, oString (vr a28) (vi 0)) :: (a28, false, ar "" .byte []) :: (a26, true, oArrayList (vi 0) (vr (og1 Z))) :: (a18, true, oXmlElement (vr a26) (vr a19) (vr a21) (vr a23) (vi 1) .null (vr a25) (vr a30)) :: (a25, true, oArrayList (vi 0) (vr (og1 Z))) :: (a23, false, oString (vr a24) (vi 0)) :: (a24, false, ar "" .byte [(vi 120)]) :: (a21, false, oString (vr a22) (vi 0)) :: (a22, false, ar "" .byte [(vi 120)]) :: (a19, false, oString (vr a20) (vi 0)) :: (a20, false, ar "" .byte []) :: (a17, true, ar "[C" .char [(vi g7), (vi g8), (vi g9)]) :: []) rfl rfl ?_
       refine W.front 19 (D' := (a17, true, ar "[C" .char [(vi g7), (vi g8), (vi g9)]) :: (a2, true, ar "[C" .char [(vi g3), (vi g4), (vi g5)]) :: (a6, true, ar "[C" .char [(vi g7), (vi g8), (vi g9)]) :: (a30, true, oStringBuilder (vr a61) (vi 1) (vi (((0 : Int32) + g13) + g15)) (vi 0)) :: (a34, true, oString (vr a35) (vi 0)) :: (a35, true, ar "[B" .byte (lm gl37)) :: (a61, true, ar "[B" .byte (lm gl64)) :: (a77, true, oString (vr a78) (vi 1)) :: (a78, true, ar "[B" .byte (lm gl64)) :: (a27, false, oString (vr a28) (vi 0)) :: (a28, false, ar "" .byte []) :: (a26, true, oArrayList (vi 0) (vr (og1 Z))) :: (a18, true, oXmlElement (vr a26) (vr a19) (vr a21) (vr a23) (vi 1) .null (vr a25) (vr a30)) :: (a25, true, oArrayList (vi 0) (vr (og1 Z))) :: (a23, false, oString (vr a24) (vi 0)) :: (a24, false, ar "" .byte [(vi 120)]) :: (a21, false, oString (vr a22) (vi 0)) :: (a22, false, ar "" .byte [(vi 120)]) :: (a19, false, oString (vr a20) (vi 0)) :: (a20, false, ar "" .byte []) :: []) rfl rfl ?_
       refine W.front 19 (D' := (a20, false, ar "" .byte []) :: (a17, true, ar "[C" .char [(vi g7), (vi g8), (vi g9)]) :: (a2, true, ar "[C" .char [(vi g3), (vi g4), (vi g5)]) :: (a6, true, ar "[C" .char [(vi g7), (vi g8), (vi g9)]) :: (a30, true, oStringBuilder (vr a61) (vi 1) (vi (((0 : Int32) + g13) + g15)) (vi 0)) :: (a34, true, oString (vr a35) (vi 0)) :: (a35, true, ar "[B" .byte (lm gl37)) :: (a61, true, ar "[B" .byte (lm gl64)) :: (a77, true, oString (vr a78) (vi 1)) :: (a78, true, ar "[B" .byte (lm gl64)) :: (a27, false, oString (vr a28) (vi 0)) :: (a28, false, ar "" .byte []) :: (a26, true, oArrayList (vi 0) (vr (og1 Z))) :: (a18, true, oXmlElement (vr a26) (vr a19) (vr a21) (vr a23) (vi 1) .null (vr a25) (vr a30)) :: (a25, true, oArrayList (vi 0) (vr (og1 Z))) :: (a23, false, oString (vr a24) (vi 0)) :: (a24, false, ar "" .byte [(vi 120)]) :: (a21, false, oString (vr a22) (vi 0)) :: (a22, false, ar "" .byte [(vi 120)]) :: (a19, false, oString (vr a20) (vi 0)) :: []) rfl rfl ?_
       refine W.front 19 (D' := (a19, false, oString (vr a20) (vi 0)) :: (a20, false, ar "" .byte []) :: (a17, true, ar "[C" .char [(vi g7), (vi g8), (vi g9)]) :: (a2, true, ar "[C" .char [(vi g3), (vi g4), (vi g5)]) :: (a6, true, ar "[C" .char [(vi g7), (vi g8), (vi g9)]) :: (a30, true, oStringBuilder (vr a61) (vi 1) (vi (((0 : Int32) + g13) + g15)) (vi 0)) :: (a34, true, oString (vr a35) (vi 0)) :: (a35, true, ar "[B" .byte (lm gl37)) :: (a61, true, ar "[B" .byte (lm gl64)) :: (a77, true, oString (vr a78) (vi 1)) :: (a78, true, ar "[B" .byte (lm gl64)) :: (a27, false, oString (vr a28) (vi 0)) :: (a28, false, ar "" .byte []) :: (a26, true, oArrayList (vi 0) (vr (og1 Z))) :: (a18, true, oXmlElement (vr a26) (vr a19) (vr a21) (vr a23) (vi 1) .null (vr a25) (vr a30)) :: (a25, true, oArrayList (vi 0) (vr (og1 Z))) :: (a23, false, oString (vr a24) (vi 0)) :: (a24, false, ar "" .byte [(vi 120)]) :: (a21, false, oString (vr a22) (vi 0)) :: (a22, false, ar "" .byte [(vi 120)]) :: []) rfl rfl ?_
       refine W.front 19 (D' := (a22, false, ar "" .byte [(vi 120)]) :: (a19, false, oString (vr a20) (vi 0)) :: (a20, false, ar "" .byte []) :: (a17, true, ar "[C" .char [(vi g7), (vi g8), (vi g9)]) :: (a2, true, ar "[C" .char [(vi g3), (vi g4), (vi g5)]) :: (a6, true, ar "[C" .char [(vi g7), (vi g8), (vi g9)]) :: (a30, true, oStringBuilder (vr a61) (vi 1) (vi (((0 : Int32) + g13) + g15)) (vi 0)) :: (a34, true, oString (vr a35) (vi 0)) :: (a35, true, ar "[B" .byte (lm gl37)) :: (a61, true, ar "[B" .byte (lm gl64)) :: (a77, true, oString (vr a78) (vi 1)) :: (a78, true, ar "[B" .byte (lm gl64)) :: (a27, false, oString (vr a28) (vi 0)) :: (a28, false, ar "" .byte []) :: (a26, true, oArrayList (vi 0) (vr (og1 Z))) :: (a18, true, oXmlElement (vr a26) (vr a19) (vr a21) (vr a23) (vi 1) .null (vr a25) (vr a30)) :: (a25, true, oArrayList (vi 0) (vr (og1 Z))) :: (a23, false, oString (vr a24) (vi 0)) :: (a24, false, ar "" .byte [(vi 120)]) :: (a21, false, oString (vr a22) (vi 0)) :: []) rfl rfl ?_
       refine W.front 19 (D' := (a21, false, oString (vr a22) (vi 0)) :: (a22, false, ar "" .byte [(vi 120)]) :: (a19, false, oString (vr a20) (vi 0)) :: (a20, false, ar "" .byte []) :: (a17, true, ar "[C" .char [(vi g7), (vi g8), (vi g9)]) :: (a2, true, ar "[C" .char [(vi g3), (vi g4), (vi g5)]) :: (a6, true, ar "[C" .char [(vi g7), (vi g8), (vi g9)]) :: (a30, true, oStringBuilder (vr a61) (vi 1) (vi (((0 : Int32) + g13) + g15)) (vi 0)) :: (a34, true, oString (vr a35) (vi 0)) :: (a35, true, ar "[B" .byte (lm gl37)) :: (a61, true, ar "[B" .byte (lm gl64)) :: (a77, true, oString (vr a78) (vi 1)) :: (a78, true, ar "[B" .byte (lm gl64)) :: (a27, false, oString (vr a28) (vi 0)) :: (a28, false, ar "" .byte []) :: (a26, true, oArrayList (vi 0) (vr (og1 Z))) :: (a18, true, oXmlElement (vr a26) (vr a19) (vr a21) (vr a23) (vi 1) .null (vr a25) (vr a30)) :: (a25, true, oArrayList (vi 0) (vr (og1 Z))) :: (a23, false, oString (vr a24) (vi 0)) :: (a24, false, ar "" .byte [(vi 120)]) :: []) rfl rfl ?_
       refine W.front 19 (D' := (a24, false, ar "" .byte [(vi 120)]) :: (a21, false, oString (vr a22) (vi 0)) :: (a22, false, ar "" .byte [(vi 120)]) :: (a19, false, oString (vr a20) (vi 0)) :: (a20, false, ar "" .byte []) :: (a17, true, ar "[C" .char [(vi g7), (vi g8), (vi g9)]) :: (a2, true, ar "[C" .char [(vi g3), (vi g4), (vi g5)]) :: (a6, true, ar "[C" .char [(vi g7), (vi g8), (vi g9)]) :: (a30, true, oStringBuilder (vr a61) (vi 1) (vi (((0 : Int32) + g13) + g15)) (vi 0)) :: (a34, true, oString (vr a35) (vi 0)) :: (a35, true, ar "[B" .byte (lm gl37)) :: (a61, true, ar "[B" .byte (lm gl64)) :: (a77, true, oString (vr a78) (vi 1)) :: (a78, true, ar "[B" .byte (lm gl64)) :: (a27, false, oString (vr a28) (vi 0)) :: (a28, false, ar "" .byte []) :: (a26, true, oArrayList (vi 0) (vr (og1 Z))) :: (a18, true, oXmlElement (vr a26) (vr a19) (vr a21) (vr a23) (vi 1) .null (vr a25) (vr a30)) :: (a25, true, oArrayList (vi 0) (vr (og1 Z))) :: (a23, false, oString (vr a24) (vi 0)) :: []) rfl rfl ?_
       refine W.front 19 (D' := (a23, false, oString (vr a24) (vi 0)) :: (a24, false, ar "" .byte [(vi 120)]) :: (a21, false, oString (vr a22) (vi 0)) :: (a22, false, ar "" .byte [(vi 120)]) :: (a19, false, oString (vr a20) (vi 0)) :: (a20, false, ar "" .byte []) :: (a17, true, ar "[C" .char [(vi g7), (vi g8), (vi g9)]) :: (a2, true, ar "[C" .char [(vi g3), (vi g4), (vi g5)]) :: (a6, true, ar "[C" .char [(vi g7), (vi g8), (vi g9)]) :: (a30, true, oStringBuilder (vr a61) (vi 1) (vi (((0 : Int32) + g13) + g15)) (vi 0)) :: (a34, true, oString (vr a35) (vi 0)) :: (a35, true, ar "[B" .byte (lm gl37)) :: (a61, true, ar "[B" .byte (lm gl64)) :: (a77, true, oString (vr a78) (vi 1)) :: (a78, true, ar "[B" .byte (lm gl64)) :: (a27, false, oString (vr a28) (vi 0)) :: (a28, false, ar "" .byte []) :: (a26, true, oArrayList (vi 0) (vr (og1 Z))) :: (a18, true, oXmlElement (vr a26) (vr a19) (vr a21) (vr a23) (vi 1) .null (vr a25) (vr a30)) :: (a25, true, oArrayList (vi 0) (vr (og1 Z))) :: []) rfl rfl ?_
       refine W.front 19 (D' := (a25, true, oArrayList (vi 0) (vr (og1 Z))) :: (a23, false, oString (vr a24) (vi 0)) :: (a24, false, ar "" .byte [(vi 120)]) :: (a21, false, oString (vr a22) (vi 0)) :: (a22, false, ar "" .byte [(vi 120)]) :: (a19, false, oString (vr a20) (vi 0)) :: (a20, false, ar "" .byte []) :: (a17, true, ar "[C" .char [(vi g7), (vi g8), (vi g9)]) :: (a2, true, ar "[C" .char [(vi g3), (vi g4), (vi g5)]) :: (a6, true, ar "[C" .char [(vi g7), (vi g8), (vi g9)]) :: (a30, true, oStringBuilder (vr a61) (vi 1) (vi (((0 : Int32) + g13) + g15)) (vi 0)) :: (a34, true, oString (vr a35) (vi 0)) :: (a35, true, ar "[B" .byte (lm gl37)) :: (a61, true, ar "[B" .byte (lm gl64)) :: (a77, true, oString (vr a78) (vi 1)) :: (a78, true, ar "[B" .byte (lm gl64)) :: (a27, false, oString (vr a28) (vi 0)) :: (a28, false, ar "" .byte []) :: (a26, true, oArrayList (vi 0) (vr (og1 Z))) :: (a18, true, oXmlElement (vr a26) (vr a19) (vr a21) (vr a23) (vi 1) .null (vr a25) (vr a30)) :: []) rfl rfl ?_
       refine W.front 19 (D' := (a18, true, oXmlElement (vr a26) (vr a19) (vr a21) (vr a23) (vi 1) .null (vr a25) (vr a30)) :: (a25, true, oArrayList (vi 0) (vr (og1 Z))) :: (a23, false, oString (vr a24) (vi 0)) :: (a24, false, ar "" .byte [(vi 120)]) :: (a21, false, oString (vr a22) (vi 0)) :: (a22, false, ar "" .byte [(vi 120)]) :: (a19, false, oString (vr a20) (vi 0)) :: (a20, false, ar "" .byte []) :: (a17, true, ar "[C" .char [(vi g7), (vi g8), (vi g9)]) :: (a2, true, ar "[C" .char [(vi g3), (vi g4), (vi g5)]) :: (a6, true, ar "[C" .char [(vi g7), (vi g8), (vi g9)]) :: (a30, true, oStringBuilder (vr a61) (vi 1) (vi (((0 : Int32) + g13) + g15)) (vi 0)) :: (a34, true, oString (vr a35) (vi 0)) :: (a35, true, ar "[B" .byte (lm gl37)) :: (a61, true, ar "[B" .byte (lm gl64)) :: (a77, true, oString (vr a78) (vi 1)) :: (a78, true, ar "[B" .byte (lm gl64)) :: (a27, false, oString (vr a28) (vi 0)) :: (a28, false, ar "" .byte []) :: (a26, true, oArrayList (vi 0) (vr (og1 Z))) :: []) rfl rfl ?_
       refine W.front 19 (D' := (a26, true, oArrayList (vi 0) (vr (og1 Z))) :: (a18, true, oXmlElement (vr a26) (vr a19) (vr a21) (vr a23) (vi 1) .null (vr a25) (vr a30)) :: (a25, true, oArrayList (vi 0) (vr (og1 Z))) :: (a23, false, oString (vr a24) (vi 0)) :: (a24, false, ar "" .byte [(vi 120)]) :: (a21, false, oString (vr a22) (vi 0)) :: (a22, false, ar "" .byte [(vi 120)]) :: (a19, false, oString (vr a20) (vi 0)) :: (a20, false, ar "" .byte []) :: (a17, true, ar "[C" .char [(vi g7), (vi g8), (vi g9)]) :: (a2, true, ar "[C" .char [(vi g3), (vi g4), (vi g5)]) :: (a6, true, ar "[C" .char [(vi g7), (vi g8), (vi g9)]) :: (a30, true, oStringBuilder (vr a61) (vi 1) (vi (((0 : Int32) + g13) + g15)) (vi 0)) :: (a34, true, oString (vr a35) (vi 0)) :: (a35, true, ar "[B" .byte (lm gl37)) :: (a61, true, ar "[B" .byte (lm gl64)) :: (a77, true, oString (vr a78) (vi 1)) :: (a78, true, ar "[B" .byte (lm gl64)) :: (a27, false, oString (vr a28) (vi 0)) :: (a28, false, ar "" .byte []) :: []) rfl rfl ?_
       refine W.front 19 (D' := (a28, false, ar "" .byte []) :: (a26, true, oArrayList (vi 0) (vr (og1 Z))) :: (a18, true, oXmlElement (vr a26) (vr a19) (vr a21) (vr a23) (vi 1) .null (vr a25) (vr a30)) :: (a25, true, oArrayList (vi 0) (vr (og1 Z))) :: (a23, false, oString (vr a24) (vi 0)) :: (a24, false, ar "" .byte [(vi 120)]) :: (a21, false, oString (vr a22) (vi 0)) :: (a22, false, ar "" .byte [(vi 120)]) :: (a19, false, oString (vr a20) (vi 0)) :: (a20, false, ar "" .byte []) :: (a17, true, ar "[C" .char [(vi g7), (vi g8), (vi g9)]) :: (a2, true, ar "[C" .char [(vi g3), (vi g4), (vi g5)]) :: (a6, true, ar "[C" .char [(vi g7), (vi g8), (vi g9)]) :: (a30, true, oStringBuilder (vr a61) (vi 1) (vi (((0 : Int32) + g13) + g15)) (vi 0)) :: (a34, true, oString (vr a35) (vi 0)) :: (a35, true, ar "[B" .byte (lm gl37)) :: (a61, true, ar "[B" .byte (lm gl64)) :: (a77, true, oString (vr a78) (vi 1)) :: (a78, true, ar "[B" .byte (lm gl64)) :: (a27, false, oString (vr a28) (vi 0)) :: []) rfl rfl ?_
       refine W.front 19 (D' := (a27, false, oString (vr a28) (vi 0)) :: (a28, false, ar "" .byte []) :: (a26, true, oArrayList (vi 0) (vr (og1 Z))) :: (a18, true, oXmlElement (vr a26) (vr a19) (vr a21) (vr a23) (vi 1) .null (vr a25) (vr a30)) :: (a25, true, oArrayList (vi 0) (vr (og1 Z))) :: (a23, false, oString (vr a24) (vi 0)) :: (a24, false, ar "" .byte [(vi 120)]) :: (a21, false, oString (vr a22) (vi 0)) :: (a22, false, ar "" .byte [(vi 120)]) :: (a19, false, oString (vr a20) (vi 0)) :: (a20, false, ar "" .byte []) :: (a17, true, ar "[C" .char [(vi g7), (vi g8), (vi g9)]) :: (a2, true, ar "[C" .char [(vi g3), (vi g4), (vi g5)]) :: (a6, true, ar "[C" .char [(vi g7), (vi g8), (vi g9)]) :: (a30, true, oStringBuilder (vr a61) (vi 1) (vi (((0 : Int32) + g13) + g15)) (vi 0)) :: (a34, true, oString (vr a35) (vi 0)) :: (a35, true, ar "[B" .byte (lm gl37)) :: (a61, true, ar "[B" .byte (lm gl64)) :: (a77, true, oString (vr a78) (vi 1)) :: (a78, true, ar "[B" .byte (lm gl64)) :: []) rfl rfl ?_
       have he82 : ((0 : Int32) + g13).toInt.toNat = g13.toInt.toNat := by have := q0; have := a_add (0 : Int32) g13; have := a_add g13 g15; have := a_add ((0 : Int32) + g13) g15; have := a_add g12 g13; have := q3; have := a_add g14 g15; have := q1; have := ashl_1 (((0 : Int32) + g13) + g15); have := ashl_1 g62; omega
       have hv83 := fun i hi => (hp65.1 i (he82 ▸ hi)).trans (hP4 i hi)
       have hv84 := hp65.2
       rw [he82] at hv84
       exact W.mono (by decide) (by decide) (K55 a61 (g62 <<< ((1 : Int32) &&& 31)) gl64 a77 a78 (g62 <<< ((1 : Int32) &&& 31)) gl64 (by have := q1; have := ashl_1 g62; have := q0; have := a_add (0 : Int32) g13; have := a_add ((0 : Int32) + g13) g15; have := ashl_1 (((0 : Int32) + g13) + g15); have := a_add g12 g13; have := q3; have := a_add g14 g15; omega) hgl64 (by have := q1; have := ashl_1 g62; have := q0; have := a_add (0 : Int32) g13; have := a_add ((0 : Int32) + g13) g15; have := ashl_1 (((0 : Int32) + g13) + g15); have := a_add g12 g13; have := q3; have := a_add g14 g15; omega) hgl64 (by have := q1; have := ashl_1 g62; have := a_add g13 g15; have := ashl_1 (g13 + g15); have := q0; have := a_add (0 : Int32) g13; have := a_add ((0 : Int32) + g13) g15; have := a_add g12 g13; have := q3; have := a_add g14 g15; have := ashl_1 (((0 : Int32) + g13) + g15); omega) hv83 hv84)
      ·
       have ih5 := f_eq h5
       have ih6 := t_gt h6
       show W _ _ _ _ _ _ _ _ _ _ _ _ 300 _ [(vr a79)]
       refine W.astore (ls' := #[iv z0, iv z1, iv z2, iv z3, iv z4, rv a2, rv a6, iv g12, iv g13, iv g14, iv g15, rv a17, rv a18, iv 1, rv a34, rv a79]) at_300 rfl rfl ?_
       refine W.front 1 (D' := (a79, true, oString (vr a80) (vi 1)) :: (a80, true, ar "[B" .byte (lm (cpl gl64 (0 : Int32).toInt.toNat (List.replicate ((((0 : Int32) + g13) + g15) <<< ((1 : Int32) &&& 31)).toInt.toNat (0 : Int32)) (0 : Int32).toInt.toNat ((((0 : Int32) + g13) + g15) <<< ((1 : Int32) &&& 31)).toInt.toNat))) :: (a61, true, ar "[B" .byte (lm gl64)) :: (a30, true, oStringBuilder (vr a61) (vi 1) (vi (((0 : Int32) + g13) + g15)) (vi 0)) :: (a27, false, oString (vr a28) (vi 0)) :: (a28, false, ar "" .byte []) :: (a26, true, oArrayList (vi 0) (vr (og1 Z))) :: (a18, true, oXmlElement (vr a26) (vr a19) (vr a21) (vr a23) (vi 1) .null (vr a25) (vr a30)) :: (a25, true, oArrayList (vi 0) (vr (og1 Z))) :: (a23, false, oString (vr a24) (vi 0)) :: (a24, false, ar "" .byte [(vi 120)]) :: (a21, false, oString (vr a22) (vi 0)) :: (a22, false, ar "" .byte [(vi 120)]) :: (a19, false, oString (vr a20) (vi 0)) :: (a20, false, ar "" .byte []) :: (a17, true, ar "[C" .char [(vi g7), (vi g8), (vi g9)]) :: (a2, true, ar "[C" .char [(vi g3), (vi g4), (vi g5)]) :: (a6, true, ar "[C" .char [(vi g7), (vi g8), (vi g9)]) :: (a34, true, oString (vr a35) (vi 0)) :: (a35, true, ar "[B" .byte (lm gl37)) :: []) rfl rfl ?_
       refine W.front 2 (D' := (a61, true, ar "[B" .byte (lm gl64)) :: (a79, true, oString (vr a80) (vi 1)) :: (a80, true, ar "[B" .byte (lm (cpl gl64 (0 : Int32).toInt.toNat (List.replicate ((((0 : Int32) + g13) + g15) <<< ((1 : Int32) &&& 31)).toInt.toNat (0 : Int32)) (0 : Int32).toInt.toNat ((((0 : Int32) + g13) + g15) <<< ((1 : Int32) &&& 31)).toInt.toNat))) :: (a30, true, oStringBuilder (vr a61) (vi 1) (vi (((0 : Int32) + g13) + g15)) (vi 0)) :: (a27, false, oString (vr a28) (vi 0)) :: (a28, false, ar "" .byte []) :: (a26, true, oArrayList (vi 0) (vr (og1 Z))) :: (a18, true, oXmlElement (vr a26) (vr a19) (vr a21) (vr a23) (vi 1) .null (vr a25) (vr a30)) :: (a25, true, oArrayList (vi 0) (vr (og1 Z))) :: (a23, false, oString (vr a24) (vi 0)) :: (a24, false, ar "" .byte [(vi 120)]) :: (a21, false, oString (vr a22) (vi 0)) :: (a22, false, ar "" .byte [(vi 120)]) :: (a19, false, oString (vr a20) (vi 0)) :: (a20, false, ar "" .byte []) :: (a17, true, ar "[C" .char [(vi g7), (vi g8), (vi g9)]) :: (a2, true, ar "[C" .char [(vi g3), (vi g4), (vi g5)]) :: (a6, true, ar "[C" .char [(vi g7), (vi g8), (vi g9)]) :: (a34, true, oString (vr a35) (vi 0)) :: (a35, true, ar "[B" .byte (lm gl37)) :: []) rfl rfl ?_
       refine W.front 19 (D' := (a35, true, ar "[B" .byte (lm gl37)) :: (a61, true, ar "[B" .byte (lm gl64)) :: (a79, true, oString (vr a80) (vi 1)) :: (a80, true, ar "[B" .byte (lm (cpl gl64 (0 : Int32).toInt.toNat (List.replicate ((((0 : Int32) + g13) + g15) <<< ((1 : Int32) &&& 31)).toInt.toNat (0 : Int32)) (0 : Int32).toInt.toNat ((((0 : Int32) + g13) + g15) <<< ((1 : Int32) &&& 31)).toInt.toNat))) :: (a30, true, oStringBuilder (vr a61) (vi 1) (vi (((0 : Int32) + g13) + g15)) (vi 0)) :: (a27, false, oString (vr a28) (vi 0)) :: (a28, false, ar "" .byte []) :: (a26, true, oArrayList (vi 0) (vr (og1 Z))) :: (a18, true, oXmlElement (vr a26) (vr a19) (vr a21) (vr a23) (vi 1) .null (vr a25) (vr a30)) :: (a25, true, oArrayList (vi 0) (vr (og1 Z))) :: (a23, false, oString (vr a24) (vi 0)) :: (a24, false, ar "" .byte [(vi 120)]) :: (a21, false, oString (vr a22) (vi 0)) :: (a22, false, ar "" .byte [(vi 120)]) :: (a19, false, oString (vr a20) (vi 0)) :: (a20, false, ar "" .byte []) :: (a17, true, ar "[C" .char [(vi g7), (vi g8), (vi g9)]) :: (a2, true, ar "[C" .char [(vi g3), (vi g4), (vi g5)]) :: (a6, true, ar "[C" .char [(vi g7), (vi g8), (vi g9)]) :: (a34, true, oString (vr a35) (vi 0)) :: []) rfl rfl ?_
       refine W.front 19 (D' := (a34, true, oString (vr a35) (vi 0)) :: (a35, true, ar "[B" .byte (lm gl37)) :: (a61, true, ar "[B" .byte (lm gl64)) :: (a79, true, oString (vr a80) (vi 1)) :: (a80, true, ar "[B" .byte (lm (cpl gl64 (0 : Int32).toInt.toNat (List.replicate ((((0 : Int32) + g13) + g15) <<< ((1 : Int32) &&& 31)).toInt.toNat (0 : Int32)) (0 : Int32).toInt.toNat ((((0 : Int32) + g13) + g15) <<< ((1 : Int32) &&& 31)).toInt.toNat))) :: (a30, true, oStringBuilder (vr a61) (vi 1) (vi (((0 : Int32) + g13) + g15)) (vi 0)) :: (a27, false, oString (vr a28) (vi 0)) :: (a28, false, ar "" .byte []) :: (a26, true, oArrayList (vi 0) (vr (og1 Z))) :: (a18, true, oXmlElement (vr a26) (vr a19) (vr a21) (vr a23) (vi 1) .null (vr a25) (vr a30)) :: (a25, true, oArrayList (vi 0) (vr (og1 Z))) :: (a23, false, oString (vr a24) (vi 0)) :: (a24, false, ar "" .byte [(vi 120)]) :: (a21, false, oString (vr a22) (vi 0)) :: (a22, false, ar "" .byte [(vi 120)]) :: (a19, false, oString (vr a20) (vi 0)) :: (a20, false, ar "" .byte []) :: (a17, true, ar "[C" .char [(vi g7), (vi g8), (vi g9)]) :: (a2, true, ar "[C" .char [(vi g3), (vi g4), (vi g5)]) :: (a6, true, ar "[C" .char [(vi g7), (vi g8), (vi g9)]) :: []) rfl rfl ?_
       refine W.front 5 (D' := (a30, true, oStringBuilder (vr a61) (vi 1) (vi (((0 : Int32) + g13) + g15)) (vi 0)) :: (a34, true, oString (vr a35) (vi 0)) :: (a35, true, ar "[B" .byte (lm gl37)) :: (a61, true, ar "[B" .byte (lm gl64)) :: (a79, true, oString (vr a80) (vi 1)) :: (a80, true, ar "[B" .byte (lm (cpl gl64 (0 : Int32).toInt.toNat (List.replicate ((((0 : Int32) + g13) + g15) <<< ((1 : Int32) &&& 31)).toInt.toNat (0 : Int32)) (0 : Int32).toInt.toNat ((((0 : Int32) + g13) + g15) <<< ((1 : Int32) &&& 31)).toInt.toNat))) :: (a27, false, oString (vr a28) (vi 0)) :: (a28, false, ar "" .byte []) :: (a26, true, oArrayList (vi 0) (vr (og1 Z))) :: (a18, true, oXmlElement (vr a26) (vr a19) (vr a21) (vr a23) (vi 1) .null (vr a25) (vr a30)) :: (a25, true, oArrayList (vi 0) (vr (og1 Z))) :: (a23, false, oString (vr a24) (vi 0)) :: (a24, false, ar "" .byte [(vi 120)]) :: (a21, false, oString (vr a22) (vi 0)) :: (a22, false, ar "" .byte [(vi 120)]) :: (a19, false, oString (vr a20) (vi 0)) :: (a20, false, ar "" .byte []) :: (a17, true, ar "[C" .char [(vi g7), (vi g8), (vi g9)]) :: (a2, true, ar "[C" .char [(vi g3), (vi g4), (vi g5)]) :: (a6, true, ar "[C" .char [(vi g7), (vi g8), (vi g9)]) :: []) rfl rfl ?_
       refine W.front 19 (D' := (a6, true, ar "[C" .char [(vi g7), (vi g8), (vi g9)]) :: (a30, true, oStringBuilder (vr a61) (vi 1) (vi (((0 : Int32) + g13) + g15)) (vi 0)) :: (a34, true, oString (vr a35) (vi 0)) :: (a35, true, ar "[B" .byte (lm gl37)) :: (a61, true, ar "[B" .byte (lm gl64)) :: (a79, true, oString (vr a80) (vi 1)) :: (a80, true, ar "[B" .byte (lm (cpl gl64 (0 : Int32).toInt.toNat (List.replicate ((((0 : Int32) + g13) + g15) <<< ((1 : Int32) &&& 31)).toInt.toNat (0 : Int32)) (0 : Int32).toInt.toNat ((((0 : Int32) + g13) + g15) <<< ((1 : Int32) &&& 31)).toInt.toNat))) :: (a27, false, oString (vr a28) (vi 0)) :: (a28, false, ar "" .byte []) :: (a26, true, oArrayList (vi 0) (vr (og1 Z))) :: (a18, true, oXmlElement (vr a26) (vr a19) (vr a21) (vr a23) (vi 1) .null (vr a25) (vr a30)) :: (a25, true, oArrayList (vi 0) (vr (og1 Z))) :: (a23, false, oString (vr a24) (vi 0)) :: (a24, false, ar "" .byte [(vi 120)]) :: (a21, false, oString (vr a22) (vi 0)) :: (a22, false, ar "" .byte [(vi 120)]) :: (a19, false, oString (vr a20) (vi 0)) :: (a20, false, ar "" .byte []) :: (a17, true, ar "[C" .char [(vi g7), (vi g8), (vi g9)]) :: (a2, true, ar "[C" .char [(vi g3), (vi g4), (vi g5)]) :: []) rfl rfl ?_
       refine W.front 19 (D' := (a2, true, ar "[C" .char [(vi g3), (vi g4), (vi g5)]) :: (a6, true, ar "[C" .char [(vi g7), (vi g8), (vi g9)]) :: (a30, true, oStringBuilder (vr a61) (vi 1) (vi (((0 : Int32) + g13) + g15)) (vi 0)) :: (a34, true, oString (vr a35) (vi 0)) :: (a35, true, ar "[B" .byte (lm gl37)) :: (a61, true, ar "[B" .byte (lm gl64)) :: (a79, true, oString (vr a80) (vi 1)) :: (a80, true, ar "[B" .byte (lm (cpl gl64 (0 : Int32).toInt.toNat (List.replicate ((((0 : Int32) + g13) + g15) <<< ((1 : Int32) &&& 31)).toInt.toNat (0 : Int32)) (0 : Int32).toInt.toNat ((((0 : Int32) + g13) + g15) <<< ((1 : Int32) &&& 31)).toInt.toNat))) :: (a27, false, oString (vr a28) (vi 0)) :: (a28, false, ar "" .byte []) :: (a26, true, oArrayList (vi 0) (vr (og1 Z))) :: (a18, true, oXmlElement (vr a26) (vr a19) (vr a21) (vr a23) (vi 1) .null (vr a25) (vr a30)) :: (a25, true, oArrayList (vi 0) (vr (og1 Z))) :: (a23, false, oString (vr a24) (vi 0)) :: (a24, false, ar "" .byte [(vi 120)]) :: (a21, false, oString (vr a22) (vi 0)) :: (a22, false, ar "" .byte [(vi 120)]) :: (a19, false, oString (vr a20) (vi 0)) :: (a20, false, ar "" .byte []) :: (a17, true, ar "[C" .char [(vi g7), (vi g8), (vi g9)]) :: []) rfl rfl ?_
       refine W.front 19 (D' := (a17, true, ar "[C" .char [(vi g7), (vi g8), (vi g9)]) :: (a2, true, ar "[C" .char [(vi g3), (vi g4), (vi g5)]) :: (a6, true, ar "[C" .char [(vi g7), (vi g8), (vi g9)]) :: (a30, true, oStringBuilder (vr a61) (vi 1) (vi (((0 : Int32) + g13) + g15)) (vi 0)) :: (a34, true, oString (vr a35) (vi 0)) :: (a35, true, ar "[B" .byte (lm gl37)) :: (a61, true, ar "[B" .byte (lm gl64)) :: (a79, true, oString (vr a80) (vi 1)) :: (a80, true, ar "[B" .byte (lm (cpl gl64 (0 : Int32).toInt.toNat (List.replicate ((((0 : Int32) + g13) + g15) <<< ((1 : Int32) &&& 31)).toInt.toNat (0 : Int32)) (0 : Int32).toInt.toNat ((((0 : Int32) + g13) + g15) <<< ((1 : Int32) &&& 31)).toInt.toNat))) :: (a27, false, oString (vr a28) (vi 0)) :: (a28, false, ar "" .byte []) :: (a26, true, oArrayList (vi 0) (vr (og1 Z))) :: (a18, true, oXmlElement (vr a26) (vr a19) (vr a21) (vr a23) (vi 1) .null (vr a25) (vr a30)) :: (a25, true, oArrayList (vi 0) (vr (og1 Z))) :: (a23, false, oString (vr a24) (vi 0)) :: (a24, false, ar "" .byte [(vi 120)]) :: (a21, false, oString (vr a22) (vi 0)) :: (a22, false, ar "" .byte [(vi 120)]) :: (a19, false, oString (vr a20) (vi 0)) :: (a20, false, ar "" .byte []) :: []) rfl rfl ?_
       refine W.front 19 (D' := (a20, false, ar "" .byte []) :: (a17, true, ar "[C" .char [(vi g7), (vi g8), (vi g9)]) :: (a2, true, ar "[C" .char [(vi g3), (vi g4), (vi g5)]) :: (a6, true, ar "[C" .char [(vi g7), (vi g8), (vi g9)]) :: (a30, true, oStringBuilder (vr a61) (vi 1) (vi (((0 : Int32) + g13) + g15)) (vi 0)) :: (a34, true, oString (vr a35) (vi 0)) :: (a35, true, ar "[B" .byte (lm gl37)) :: (a61, true, ar "[B" .byte (lm gl64)) :: (a79, true, oString (vr a80) (vi 1)) :: (a80, true, ar "[B" .byte (lm (cpl gl64 (0 : Int32).toInt.toNat (List.replicate ((((0 : Int32) + g13) + g15) <<< ((1 : Int32) &&& 31)).toInt.toNat (0 : Int32)) (0 : Int32).toInt.toNat ((((0 : Int32) + g13) + g15) <<< ((1 : Int32) &&& 31)).toInt.toNat))) :: (a27, false, oString (vr a28) (vi 0)) :: (a28, false, ar "" .byte []) :: (a26, true, oArrayList (vi 0) (vr (og1 Z))) :: (a18, true, oXmlElement (vr a26) (vr a19) (vr a21) (vr a23) (vi 1) .null (vr a25) (vr a30)) :: (a25, true, oArrayList (vi 0) (vr (og1 Z))) :: (a23, false, oString (vr a24) (vi 0)) :: (a24, false, ar "" .byte [(vi 120)]) :: (a21, false, oString (vr a22) (vi 0)) :: (a22, false, ar "" .byte [(vi 120)]) :: (a19, false, oString (vr a20) (vi 0)) :: []) rfl rfl ?_
       refine W.front 19 (D' := (a19, false, oString (vr a20) (vi 0)) :: (a20, false, ar "" .byte []) :: (a17, true, ar "[C" .char [(vi g7), (vi g8), (vi g9)]) :: (a2, true, ar "[C" .char [(vi g3), (vi g4), (vi g5)]) :: (a6, true, ar "[C" .char [(vi g7), (vi g8), (vi g9)]) :: (a30, true, oStringBuilder (vr a61) (vi 1) (vi (((0 : Int32) + g13) + g15)) (vi 0)) :: (a34, true, oString (vr a35) (vi 0)) :: (a35, true, ar "[B" .byte (lm gl37)) :: (a61, true, ar "[B" .byte (lm gl64)) :: (a79, true, oString (vr a80) (vi 1)) :: (a80, true, ar "[B" .byte (lm (cpl gl64 (0 : Int32).toInt.toNat (List.replicate ((((0 : Int32) + g13) + g15) <<< ((1 : Int32) &&& 31)).toInt.toNat (0 : Int32)) (0 : Int32).toInt.toNat ((((0 : Int32) + g13) + g15) <<< ((1 : Int32) &&& 31)).toInt.toNat))) :: (a27, false, oString (vr a28) (vi 0)) :: (a28, false, ar "" .byte []) :: (a26, true, oArrayList (vi 0) (vr (og1 Z))) :: (a18, true, oXmlElement (vr a26) (vr a19) (vr a21) (vr a23) (vi 1) .null (vr a25) (vr a30)) :: (a25, true, oArrayList (vi 0) (vr (og1 Z))) :: (a23, false, oString (vr a24) (vi 0)) :: (a24, false, ar "" .byte [(vi 120)]) :: (a21, false, oString (vr a22) (vi 0)) :: (a22, false, ar "" .byte [(vi 120)]) :: []) rfl rfl ?_
       refine W.front 19 (D' := (a22, false, ar "" .byte [(vi 120)]) :: (a19, false, oString (vr a20) (vi 0)) :: (a20, false, ar "" .byte []) :: (a17, true, ar "[C" .char [(vi g7), (vi g8), (vi g9)]) :: (a2, true, ar "[C" .char [(vi g3), (vi g4), (vi g5)]) :: (a6, true, ar "[C" .char [(vi g7), (vi g8), (vi g9)]) :: (a30, true, oStringBuilder (vr a61) (vi 1) (vi (((0 : Int32) + g13) + g15)) (vi 0)) :: (a34, true, oString (vr a35) (vi 0)) :: (a35, true, ar "[B" .byte (lm gl37)) :: (a61, true, ar "[B" .byte (lm gl64)) :: (a79, true, oString (vr a80) (vi 1)) :: (a80, true, ar "[B" .byte (lm (cpl gl64 (0 : Int32).toInt.toNat (List.replicate ((((0 : Int32) + g13) + g15) <<< ((1 : Int32) &&& 31)).toInt.toNat (0 : Int32)) (0 : Int32).toInt.toNat ((((0 : Int32) + g13) + g15) <<< ((1 : Int32) &&& 31)).toInt.toNat))) :: (a27, false, oString (vr a28) (vi 0)) :: (a28, false, ar "" .byte []) :: (a26, true, oArrayList (vi 0) (vr (og1 Z))) :: (a18, true, oXmlElement (vr a26) (vr a19) (vr a21) (vr a23) (vi 1) .null (vr a25) (vr a30)) :: (a25, true, oArrayList (vi 0) (vr (og1 Z))) :: (a23, false, oString (vr a24) (vi 0)) :: (a24, false, ar "" .byte [(vi 120)]) :: (a21, false, oString (vr a22) (vi 0)) :: []) rfl rfl ?_
       refine W.front 19 (D' := (a21, false, oString (vr a22) (vi 0)) :: (a22, false, ar "" .byte [(vi 120)]) :: (a19, false, oString (vr a20) (vi 0)) :: (a20, false, ar "" .byte []) :: (a17, true, ar "[C" .char [(vi g7), (vi g8), (vi g9)]) :: (a2, true, ar "[C" .char [(vi g3), (vi g4), (vi g5)]) :: (a6, true, ar "[C" .char [(vi g7), (vi g8), (vi g9)]) :: (a30, true, oStringBuilder (vr a61) (vi 1) (vi (((0 : Int32) + g13) + g15)) (vi 0)) :: (a34, true, oString (vr a35) (vi 0)) :: (a35, true, ar "[B" .byte (lm gl37)) :: (a61, true, ar "[B" .byte (lm gl64)) :: (a79, true, oString (vr a80) (vi 1)) :: (a80, true, ar "[B" .byte (lm (cpl gl64 (0 : Int32).toInt.toNat (List.replicate ((((0 : Int32) + g13) + g15) <<< ((1 : Int32) &&& 31)).toInt.toNat (0 : Int32)) (0 : Int32).toInt.toNat ((((0 : Int32) + g13) + g15) <<< ((1 : Int32) &&& 31)).toInt.toNat))) :: (a27, false, oString (vr a28) (vi 0)) :: (a28, false, ar "" .byte []) :: (a26, true, oArrayList (vi 0) (vr (og1 Z))) :: (a18, true, oXmlElement (vr a26) (vr a19) (vr a21) (vr a23) (vi 1) .null (vr a25) (vr a30)) :: (a25, true, oArrayList (vi 0) (vr (og1 Z))) :: (a23, false, oString (vr a24) (vi 0)) :: (a24, false, ar "" .byte [(vi 120)]) :: []) rfl rfl ?_
       refine W.front 19 (D' := (a24, false, ar "" .byte [(vi 120)]) :: (a21, false, oString (vr a22) (vi 0)) :: (a22, false, ar "" .byte [(vi 120)]) :: (a19, false, oString (vr a20) (vi 0)) :: (a20, false, ar "" .byte []) :: (a17, true, ar "[C" .char [(vi g7), (vi g8), (vi g9)]) :: (a2, true, ar "[C" .char [(vi g3), (vi g4), (vi g5)]) :: (a6, true, ar "[C" .char [(vi g7), (vi g8), (vi g9)]) :: (a30, true, oStringBuilder (vr a61) (vi 1) (vi (((0 : Int32) + g13) + g15)) (vi 0)) :: (a34, true, oString (vr a35) (vi 0)) :: (a35, true, ar "[B" .byte (lm gl37)) :: (a61, true, ar "[B" .byte (lm gl64)) :: (a79, true, oString (vr a80) (vi 1)) :: (a80, true, ar "[B" .byte (lm (cpl gl64 (0 : Int32).toInt.toNat (List.replicate ((((0 : Int32) + g13) + g15) <<< ((1 : Int32) &&& 31)).toInt.toNat (0 : Int32)) (0 : Int32).toInt.toNat ((((0 : Int32) + g13) + g15) <<< ((1 : Int32) &&& 31)).toInt.toNat))) :: (a27, false, oString (vr a28) (vi 0)) :: (a28, false, ar "" .byte []) :: (a26, true, oArrayList (vi 0) (vr (og1 Z))) :: (a18, true, oXmlElement (vr a26) (vr a19) (vr a21) (vr a23) (vi 1) .null (vr a25) (vr a30)) :: (a25, true, oArrayList (vi 0) (vr (og1 Z))) :: (a23, false, oString (vr a24) (vi 0)) :: []) rfl rfl ?_
       refine W.front 19 (D' := (a23, false, oString (vr a24) (vi 0)) :: (a24, false, ar "" .byte [(vi 120)]) :: (a21, false, oString (vr a22) (vi 0)) :: (a22, false, ar "" .byte [(vi 120)]) :: (a19, false, oString (vr a20) (vi 0)) :: (a20, false, ar "" .byte []) :: (a17, true, ar "[C" .char [(vi g7), (vi g8), (vi g9)]) :: (a2, true, ar "[C" .char [(vi g3), (vi g4), (vi g5)]) :: (a6, true, ar "[C" .char [(vi g7), (vi g8), (vi g9)]) :: (a30, true, oStringBuilder (vr a61) (vi 1) (vi (((0 : Int32) + g13) + g15)) (vi 0)) :: (a34, true, oString (vr a35) (vi 0)) :: (a35, true, ar "[B" .byte (lm gl37)) :: (a61, true, ar "[B" .byte (lm gl64)) :: (a79, true, oString (vr a80) (vi 1)) :: (a80, true, ar "[B" .byte (lm (cpl gl64 (0 : Int32).toInt.toNat (List.replicate ((((0 : Int32) + g13) + g15) <<< ((1 : Int32) &&& 31)).toInt.toNat (0 : Int32)) (0 : Int32).toInt.toNat ((((0 : Int32) + g13) + g15) <<< ((1 : Int32) &&& 31)).toInt.toNat))) :: (a27, false, oString (vr a28) (vi 0)) :: (a28, false, ar "" .byte []) :: (a26, true, oArrayList (vi 0) (vr (og1 Z))) :: (a18, true, oXmlElement (vr a26) (vr a19) (vr a21) (vr a23) (vi 1) .null (vr a25) (vr a30)) :: (a25, true, oArrayList (vi 0) (vr (og1 Z))) :: []) rfl rfl ?_
       refine W.front 19 (D' := (a25, true, oArrayList (vi 0) (vr (og1 Z))) :: (a23, false, oString (vr a24) (vi 0)) :: (a24, false, ar "" .byte [(vi 120)]) :: (a21, false, oString (vr a22) (vi 0)) :: (a22, false, ar "" .byte [(vi 120)]) :: (a19, false, oString (vr a20) (vi 0)) :: (a20, false, ar "" .byte []) :: (a17, true, ar "[C" .char [(vi g7), (vi g8), (vi g9)]) :: (a2, true, ar "[C" .char [(vi g3), (vi g4), (vi g5)]) :: (a6, true, ar "[C" .char [(vi g7), (vi g8), (vi g9)]) :: (a30, true, oStringBuilder (vr a61) (vi 1) (vi (((0 : Int32) + g13) + g15)) (vi 0)) :: (a34, true, oString (vr a35) (vi 0)) :: (a35, true, ar "[B" .byte (lm gl37)) :: (a61, true, ar "[B" .byte (lm gl64)) :: (a79, true, oString (vr a80) (vi 1)) :: (a80, true, ar "[B" .byte (lm (cpl gl64 (0 : Int32).toInt.toNat (List.replicate ((((0 : Int32) + g13) + g15) <<< ((1 : Int32) &&& 31)).toInt.toNat (0 : Int32)) (0 : Int32).toInt.toNat ((((0 : Int32) + g13) + g15) <<< ((1 : Int32) &&& 31)).toInt.toNat))) :: (a27, false, oString (vr a28) (vi 0)) :: (a28, false, ar "" .byte []) :: (a26, true, oArrayList (vi 0) (vr (og1 Z))) :: (a18, true, oXmlElement (vr a26) (vr a19) (vr a21) (vr a23) (vi 1) .null (vr a25) (vr a30)) :: []) rfl rfl ?_
       refine W.front 19 (D' := (a18, true, oXmlElement (vr a26) (vr a19) (vr a21) (vr a23) (vi 1) .null (vr a25) (vr a30)) :: (a25, true, oArrayList (vi 0) (vr (og1 Z))) :: (a23, false, oString (vr a24) (vi 0)) :: (a24, false, ar "" .byte [(vi 120)]) :: (a21, false, oString (vr a22) (vi 0)) :: (a22, false, ar "" .byte [(vi 120)]) :: (a19, false, oString (vr a20) (vi 0)) :: (a20, false, ar "" .byte []) :: (a17, true, ar "[C" .char [(vi g7), (vi g8), (vi g9)]) :: (a2, true, ar "[C" .char [(vi g3), (vi g4), (vi g5)]) :: (a6, true, ar "[C" .char [(vi g7), (vi g8), (vi g9)]) :: (a30, true, oStringBuilder (vr a61) (vi 1) (vi (((0 : Int32) + g13) + g15)) (vi 0)) :: (a34, true, oString (vr a35) (vi 0)) :: (a35, true, ar "[B" .byte (lm gl37)) :: (a61, true, ar "[B" .byte (lm gl64)) :: (a79, true, oString (vr a80) (vi 1)) :: (a80, true, ar "[B" .byte (lm (cpl gl64 (0 : Int32).toInt.toNat (List.replicate ((((0 : Int32) + g13) + g15) <<< ((1 : Int32) &&& 31)).toInt.toNat (0 : Int32)) (0 : Int32).toInt.toNat ((((0 : Int32) + g13) + g15) <<< ((1 : Int32) &&& 31)).toInt.toNat))) :: (a27, false, oString (vr a28) (vi 0)) :: (a28, false, ar "" .byte []) :: (a26, true, oArrayList (vi 0) (vr (og1 Z))) :: []) rfl rfl ?_
       refine W.front 19 (D' := (a26, true, oArrayList (vi 0) (vr (og1 Z))) :: (a18, true, oXmlElement (vr a26) (vr a19) (vr a21) (vr a23) (vi 1) .null (vr a25) (vr a30)) :: (a25, true, oArrayList (vi 0) (vr (og1 Z))) :: (a23, false, oString (vr a24) (vi 0)) :: (a24, false, ar "" .byte [(vi 120)]) :: (a21, false, oString (vr a22) (vi 0)) :: (a22, false, ar "" .byte [(vi 120)]) :: (a19, false, oString (vr a20) (vi 0)) :: (a20, false, ar "" .byte []) :: (a17, true, ar "[C" .char [(vi g7), (vi g8), (vi g9)]) :: (a2, true, ar "[C" .char [(vi g3), (vi g4), (vi g5)]) :: (a6, true, ar "[C" .char [(vi g7), (vi g8), (vi g9)]) :: (a30, true, oStringBuilder (vr a61) (vi 1) (vi (((0 : Int32) + g13) + g15)) (vi 0)) :: (a34, true, oString (vr a35) (vi 0)) :: (a35, true, ar "[B" .byte (lm gl37)) :: (a61, true, ar "[B" .byte (lm gl64)) :: (a79, true, oString (vr a80) (vi 1)) :: (a80, true, ar "[B" .byte (lm (cpl gl64 (0 : Int32).toInt.toNat (List.replicate ((((0 : Int32) + g13) + g15) <<< ((1 : Int32) &&& 31)).toInt.toNat (0 : Int32)) (0 : Int32).toInt.toNat ((((0 : Int32) + g13) + g15) <<< ((1 : Int32) &&& 31)).toInt.toNat))) :: (a27, false, oString (vr a28) (vi 0)) :: (a28, false, ar "" .byte []) :: []) rfl rfl ?_
       refine W.front 19 (D' := (a28, false, ar "" .byte []) :: (a26, true, oArrayList (vi 0) (vr (og1 Z))) :: (a18, true, oXmlElement (vr a26) (vr a19) (vr a21) (vr a23) (vi 1) .null (vr a25) (vr a30)) :: (a25, true, oArrayList (vi 0) (vr (og1 Z))) :: (a23, false, oString (vr a24) (vi 0)) :: (a24, false, ar "" .byte [(vi 120)]) :: (a21, false, oString (vr a22) (vi 0)) :: (a22, false, ar "" .byte [(vi 120)]) :: (a19, false, oString (vr a20) (vi 0)) :: (a20, false, ar "" .byte []) :: (a17, true, ar "[C" .char [(vi g7), (vi g8), (vi g9)]) :: (a2, true, ar "[C" .char [(vi g3), (vi g4), (vi g5)]) :: (a6, true, ar "[C" .char [(vi g7), (vi g8), (vi g9)]) :: (a30, true, oStringBuilder (vr a61) (vi 1) (vi (((0 : Int32) + g13) + g15)) (vi 0)) :: (a34, true, oString (vr a35) (vi 0)) :: (a35, true, ar "[B" .byte (lm gl37)) :: (a61, true, ar "[B" .byte (lm gl64)) :: (a79, true, oString (vr a80) (vi 1)) :: (a80, true, ar "[B" .byte (lm (cpl gl64 (0 : Int32).toInt.toNat (List.replicate ((((0 : Int32) + g13) + g15) <<< ((1 : Int32) &&& 31)).toInt.toNat (0 : Int32)) (0 : Int32).toInt.toNat ((((0 : Int32) + g13) + g15) <<< ((1 : Int32) &&& 31)).toInt.toNat))) :: (a27, false, oString (vr a28) (vi 0)) :: []) rfl rfl ?_
       refine W.front 19 (D' := (a27, false, oString (vr a28) (vi 0)) :: (a28, false, ar "" .byte []) :: (a26, true, oArrayList (vi 0) (vr (og1 Z))) :: (a18, true, oXmlElement (vr a26) (vr a19) (vr a21) (vr a23) (vi 1) .null (vr a25) (vr a30)) :: (a25, true, oArrayList (vi 0) (vr (og1 Z))) :: (a23, false, oString (vr a24) (vi 0)) :: (a24, false, ar "" .byte [(vi 120)]) :: (a21, false, oString (vr a22) (vi 0)) :: (a22, false, ar "" .byte [(vi 120)]) :: (a19, false, oString (vr a20) (vi 0)) :: (a20, false, ar "" .byte []) :: (a17, true, ar "[C" .char [(vi g7), (vi g8), (vi g9)]) :: (a2, true, ar "[C" .char [(vi g3), (vi g4), (vi g5)]) :: (a6, true, ar "[C" .char [(vi g7), (vi g8), (vi g9)]) :: (a30, true, oStringBuilder (vr a61) (vi 1) (vi (((0 : Int32) + g13) + g15)) (vi 0)) :: (a34, true, oString (vr a35) (vi 0)) :: (a35, true, ar "[B" .byte (lm gl37)) :: (a61, true, ar "[B" .byte (lm gl64)) :: (a79, true, oString (vr a80) (vi 1)) :: (a80, true, ar "[B" .byte (lm (cpl gl64 (0 : Int32).toInt.toNat (List.replicate ((((0 : Int32) + g13) + g15) <<< ((1 : Int32) &&& 31)).toInt.toNat (0 : Int32)) (0 : Int32).toInt.toNat ((((0 : Int32) + g13) + g15) <<< ((1 : Int32) &&& 31)).toInt.toNat))) :: []) rfl rfl ?_
       have he85 : ((0 : Int32) + g13).toInt.toNat = g13.toInt.toNat := by have := q0; have := a_add (0 : Int32) g13; have := a_add g13 g15; have := a_add ((0 : Int32) + g13) g15; have := a_add g12 g13; have := q3; have := a_add g14 g15; have := q1; have := ashl_1 (((0 : Int32) + g13) + g15); have := ashl_1 g62; omega
       have hv86 := fun i hi => (hp65.1 i (he85 ▸ hi)).trans (hP4 i hi)
       have hv87 := hp65.2
       rw [he85] at hv87
       exact W.mono (by decide) (by decide) (K55 a61 (g62 <<< ((1 : Int32) &&& 31)) gl64 a79 a80 ((((0 : Int32) + g13) + g15) <<< ((1 : Int32) &&& 31)) (cpl gl64 (0 : Int32).toInt.toNat (List.replicate ((((0 : Int32) + g13) + g15) <<< ((1 : Int32) &&& 31)).toInt.toNat (0 : Int32)) (0 : Int32).toInt.toNat ((((0 : Int32) + g13) + g15) <<< ((1 : Int32) &&& 31)).toInt.toNat) (by have := q1; have := ashl_1 g62; have := q0; have := a_add (0 : Int32) g13; have := a_add ((0 : Int32) + g13) g15; have := ashl_1 (((0 : Int32) + g13) + g15); have := a_add g12 g13; have := q3; have := a_add g14 g15; omega) hgl64 (by have := q0; have := a_add (0 : Int32) g13; have := a_add ((0 : Int32) + g13) g15; have := q1; have := ashl_1 (((0 : Int32) + g13) + g15); have := a_add g12 g13; have := q3; have := a_add g14 g15; have := ashl_1 g62; omega) hl81 (by have := q0; have := a_add (0 : Int32) g13; have := a_add ((0 : Int32) + g13) g15; have := q1; have := ashl_1 (((0 : Int32) + g13) + g15); have := a_add g13 g15; have := ashl_1 (g13 + g15); have := a_add g12 g13; have := q3; have := a_add g14 g15; have := ashl_1 g62; omega) (fun i hi => (dc_cplI (by have := q0; have := a_add (0 : Int32) g13; have := a_add ((0 : Int32) + g13) g15; have := q1; have := ashl_1 g62; have := ashl_1 (((0 : Int32) + g13) + g15); have := a_add g13 g15; have := ashr_1 (g62 <<< ((1 : Int32) &&& 31)); have := a_add g12 g13; have := q3; have := a_add g14 g15; omega) (by have := hgl64; have := q0; have := a_add (0 : Int32) g13; have := a_add ((0 : Int32) + g13) g15; have := q1; have := ashl_1 g62; have := ashl_1 (((0 : Int32) + g13) + g15); have := a_add g13 g15; have := ashr_1 (g62 <<< ((1 : Int32) &&& 31)); have := a_add g12 g13; have := q3; have := a_add g14 g15; omega) (by have := len_rep (z := ((((0 : Int32) + g13) + g15) <<< ((1 : Int32) &&& 31))) (by have := q0; have := a_add (0 : Int32) g13; have := a_add ((0 : Int32) + g13) g15; have := q1; have := ashl_1 g62; have := ashl_1 (((0 : Int32) + g13) + g15); have := a_add g13 g15; have := ashr_1 (g62 <<< ((1 : Int32) &&& 31)); have := a_add g12 g13; have := q3; have := a_add g14 g15; omega); have := q0; have := a_add (0 : Int32) g13; have := a_add ((0 : Int32) + g13) g15; have := q1; have := ashl_1 g62; have := ashl_1 (((0 : Int32) + g13) + g15); have := a_add g13 g15; have := ashr_1 (g62 <<< ((1 : Int32) &&& 31)); have := a_add g12 g13; have := q3; have := a_add g14 g15; omega)).trans (hv86 i hi)) (fun i hi => (dc_cplI (by have := q0; have := a_add (0 : Int32) g13; have := a_add ((0 : Int32) + g13) g15; have := q1; have := ashl_1 g62; have := ashl_1 (((0 : Int32) + g13) + g15); have := a_add g13 g15; have := ashr_1 (g62 <<< ((1 : Int32) &&& 31)); have := a_add g12 g13; have := q3; have := a_add g14 g15; omega) (by have := hgl64; have := q0; have := a_add (0 : Int32) g13; have := a_add ((0 : Int32) + g13) g15; have := q1; have := ashl_1 g62; have := ashl_1 (((0 : Int32) + g13) + g15); have := a_add g13 g15; have := ashr_1 (g62 <<< ((1 : Int32) &&& 31)); have := a_add g12 g13; have := q3; have := a_add g14 g15; omega) (by have := len_rep (z := ((((0 : Int32) + g13) + g15) <<< ((1 : Int32) &&& 31))) (by have := q0; have := a_add (0 : Int32) g13; have := a_add ((0 : Int32) + g13) g15; have := q1; have := ashl_1 g62; have := ashl_1 (((0 : Int32) + g13) + g15); have := a_add g13 g15; have := ashr_1 (g62 <<< ((1 : Int32) &&& 31)); have := a_add g12 g13; have := q3; have := a_add g14 g15; omega); have := q0; have := a_add (0 : Int32) g13; have := a_add ((0 : Int32) + g13) g15; have := q1; have := ashl_1 g62; have := ashl_1 (((0 : Int32) + g13) + g15); have := a_add g13 g15; have := ashr_1 (g62 <<< ((1 : Int32) &&& 31)); have := a_add g12 g13; have := q3; have := a_add g14 g15; omega)).trans (hv87 i hi)))
    have K96 : ∀ (a88 : Addr) (a89 : Addr) (g90 : Int32) (gl91 : List Int32) (a92 : Addr) (a93 : Addr) (g94 : Int32) (gl95 : List Int32), 0 ≤ g90.toInt ∧ g90.toInt ≤ 32 → (gl91.length : Int) = g90.toInt → 0 ≤ g94.toInt ∧ g94.toInt ≤ 32 → (gl95.length : Int) = g94.toInt → (g94.toInt = (g13 <<< ((1 : Int32) &&& 31)).toInt) → (((0 : Int32) + g13).toInt ≤ (g90 >>> ((1 : Int32) &&& 31)).toInt) → (∀ i, i < g13.toInt.toNat → dc 1 gl95 i = [g3, g4, g5].getD (g12.toInt.toNat + i) 0) → (∀ i, i < g13.toInt.toNat → dc 1 gl91 i = [g3, g4, g5].getD (g12.toInt.toNat + i) 0) → W Z EL room_1 "com/example/montaje/montaje/xml/XmlElementAppendTextPinLaw" "law" code maxLocals ret (fun v _ => v = some (.int 1)) ((a27, false, oString (vr a28) (vi 0)) :: (a28, false, ar "" .byte []) :: (a26, true, oArrayList (vi 0) (vr (og1 Z))) :: (a18, true, oXmlElement (vr a26) (vr a19) (vr a21) (vr a23) (vi 1) .null (vr a25) (vr a88)) :: (a25, true, oArrayList (vi 0) (vr (og1 Z))) :: (a23, false, oString (vr a24) (vi 0)) :: (a24, false, ar "" .byte [(vi 120)]) :: (a21, false, oString (vr a22) (vi 0)) :: (a22, false, ar "" .byte [(vi 120)]) :: (a19, false, oString (vr a20) (vi 0)) :: (a20, false, ar "" .byte []) :: (a17, true, ar "[C" .char [(vi g3), (vi g4), (vi g5)]) :: (a2, true, ar "[C" .char [(vi g3), (vi g4), (vi g5)]) :: (a6, true, ar "[C" .char [(vi g7), (vi g8), (vi g9)]) :: (a88, true, oStringBuilder (vr a89) (vi 1) (vi ((0 : Int32) + g13)) (vi 0)) :: (a89, true, ar "[B" .byte (lm gl91)) :: (a92, true, oString (vr a93) (vi 1)) :: (a93, true, ar "[B" .byte (lm gl95)) :: []) 20 1075 178 #[iv z0, iv z1, iv z2, iv z3, iv z4, rv a2, rv a6, iv g12, iv g13, iv g14, iv g15, rv a17, rv a18, iv 1, rv a92, uu] [] := by
     intro a88 a89 g90 gl91 a92 a93 g94 gl95 hg90 hgl91 hg94 hgl95 hP1 hP2 hP3 hP4
     refine W.iload at_178 rfl ?_
     refine W.ifN at_180 (n_eq (by decide)) ?_
     refine W.aload 14 at_183 rfl rfl ?_
     refine W.callV (as := []) 0 [] at_185 (wq hw 68 rfl) (wq hw 69 rfl) (wq hw 71 rfl) (wq hw 71 rfl) (wq hw 70 rfl) (wq hw 6 rfl) (wq hw 72 rfl) (Hp.exa m16) (c81_length hw hs (hx1 := (by have := q1; have := ashl_1 g13; have := a_add g12 g13; have := q3; have := q0; have := a_add (0 : Int32) g13; have := ashr_1 g90; omega)) (l1 := gl95) (hl_l1 := hgl95) (mp1 := m16) (mp2 := m17)) (by decide) pd__I rfl rfl rfl rfl (by decide) (fun v D' h => ?_)
     obtain ⟨rfl, rfl⟩ := h
     show W _ _ _ _ _ _ _ _ _ _ _ _ 188 _ [(vi (g94 >>> ((1 : Int32) &&& 31)))]
     refine W.iload at_188 rfl ?_
     refine W.icmpN at_190 (n_ne (by have := q1; have := ashr_1 g94; have := a_add g12 g13; have := q3; have := ashl_1 g13; have := q0; have := a_add (0 : Int32) g13; have := ashr_1 g90; omega)) ?_
     refine W.aload 14 at_193 rfl rfl ?_
     refine W.iconst (0) at_195 (by decide) ?_
     refine W.aload 5 at_196 rfl rfl ?_
     refine W.iload at_198 rfl ?_
     refine W.iload at_200 rfl ?_
     refine W.aload 6 at_202 rfl rfl ?_
     refine W.iload at_204 rfl ?_
     refine W.iconst (0) at_206 (by decide) ?_
     refine W.callS (as := [(vr a92), (vi 0), (vr a2), (vi g12), (vi g13), (vr a6), (vi g14), (vi 0)]) 0 [] at_207 (wq hw 178 rfl) (wq hw 179 rfl) (wq hw 180 rfl) (wq hw 181 rfl) (c83_at hw hs (hx1 := (by decide)) (hx2 := (by have := a_add g12 g13; have := q3; have := q1; have := ashl_1 g13; have := q0; have := a_add (0 : Int32) g13; have := ashr_1 g90; omega)) (hx3 := (by have := a_add g12 g13; have := q3; have := q1; have := ashl_1 g13; have := q0; have := a_add (0 : Int32) g13; have := ashr_1 g90; omega)) (hx4 := (by have := a_add g14 g15; have := q3; omega)) (hx5 := (by decide)) (hx6 := (by have := q1; have := ashl_1 g13; have := a_add g12 g13; have := q3; have := q0; have := a_add (0 : Int32) g13; have := ashr_1 g90; omega)) (hr0 := by have := q0; have := a_add g13 (0 : Int32); have := q1; have := ashr_1 g94; have := a_add g12 g13; have := q3; have := ashl_1 g13; have := a_add (0 : Int32) g13; have := ashr_1 g90; omega) (hr1 := by have := a_add g12 g13; have := q3; have := q1; have := ashl_1 g13; have := q0; have := a_add (0 : Int32) g13; have := ashr_1 g90; omega) (hr2 := by have := q0; have := a_add g14 (0 : Int32); have := q3; have := a_add g14 g15; omega) (l1 := [g3, g4, g5]) (hl_l1 := (len_q (k := 3) rfl (by decide))) (hb_l1 := (bl3 hg3 hg4 hg5)) (l2 := [g7, g8, g9]) (hl_l2 := (len_q (k := 3) rfl (by decide))) (hb_l2 := (bl3 hg7 hg8 hg9)) (l3 := gl95) (hl_l3 := hgl95) (hA := (fun h1 => hP3 _ (by have := q0; have := a_add g13 g15; have := a_add g12 g13; have := q3; have := a_add g14 g15; have := q1; have := ashl_1 g13; have := a_add (0 : Int32) g13; have := ashr_1 g90; omega))) (hB := (fun h1 h2 => by exfalso; have := q0; have := a_add g13 (0 : Int32); have := a_add g12 g13; have := q3; have := q1; have := ashl_1 g13; have := a_add (0 : Int32) g13; have := ashr_1 g90; omega)) (mp3 := m13) (mp1 := m16) (mp4 := m17) (mp2 := m12)) (by decide) pd_Ljava_lang_String_I_CII_CII_Z rfl rfl rfl rfl (by decide) (fun v D' h => ?_)
     obtain ⟨rfl, rfl⟩ := h
     show W _ _ _ _ _ _ _ _ _ _ _ _ 210 _ [(vi 1)]
     refine W.ifN at_210 (n_eq (by decide)) ?_
     refine W.aload 14 at_213 rfl rfl ?_
     refine W.iconst (1) at_215 (by decide) ?_
     refine W.aload 5 at_216 rfl rfl ?_
     refine W.iload at_218 rfl ?_
     refine W.iload at_220 rfl ?_
     refine W.aload 6 at_222 rfl rfl ?_
     refine W.iload at_224 rfl ?_
     refine W.iconst (0) at_226 (by decide) ?_
     refine W.callS (as := [(vr a92), (vi 1), (vr a2), (vi g12), (vi g13), (vr a6), (vi g14), (vi 0)]) 0 [] at_227 (wq hw 178 rfl) (wq hw 179 rfl) (wq hw 180 rfl) (wq hw 181 rfl) (c83_at hw hs (hx1 := (by decide)) (hx2 := (by have := a_add g12 g13; have := q3; have := q1; have := ashl_1 g13; have := q0; have := a_add (0 : Int32) g13; have := ashr_1 g90; omega)) (hx3 := (by have := a_add g12 g13; have := q3; have := q1; have := ashl_1 g13; have := q0; have := a_add (0 : Int32) g13; have := ashr_1 g90; omega)) (hx4 := (by have := a_add g14 g15; have := q3; omega)) (hx5 := (by decide)) (hx6 := (by have := q1; have := ashl_1 g13; have := a_add g12 g13; have := q3; have := q0; have := a_add (0 : Int32) g13; have := ashr_1 g90; omega)) (hr0 := by have := q0; have := a_add g13 (0 : Int32); have := q1; have := ashr_1 g94; have := a_add g12 g13; have := q3; have := ashl_1 g13; have := a_add (0 : Int32) g13; have := ashr_1 g90; omega) (hr1 := by have := a_add g12 g13; have := q3; have := q1; have := ashl_1 g13; have := q0; have := a_add (0 : Int32) g13; have := ashr_1 g90; omega) (hr2 := by have := q0; have := a_add g14 (0 : Int32); have := q3; have := a_add g14 g15; omega) (l1 := [g3, g4, g5]) (hl_l1 := (len_q (k := 3) rfl (by decide))) (hb_l1 := (bl3 hg3 hg4 hg5)) (l2 := [g7, g8, g9]) (hl_l2 := (len_q (k := 3) rfl (by decide))) (hb_l2 := (bl3 hg7 hg8 hg9)) (l3 := gl95) (hl_l3 := hgl95) (hA := (fun h1 => hP3 _ (by have := q1; have := a_add g13 g15; have := q0; have := a_add g12 g13; have := q3; have := a_add g14 g15; have := ashl_1 g13; have := a_add (0 : Int32) g13; have := ashr_1 g90; omega))) (hB := (fun h1 h2 => by exfalso; have := q1; have := q0; have := a_add g13 (0 : Int32); have := a_add g12 g13; have := q3; have := ashl_1 g13; have := a_add (0 : Int32) g13; have := ashr_1 g90; omega)) (mp3 := m13) (mp1 := m16) (mp4 := m17) (mp2 := m12)) (by decide) pd_Ljava_lang_String_I_CII_CII_Z rfl rfl rfl rfl (by decide) (fun v D' h => ?_)
     obtain ⟨rfl, rfl⟩ := h
     show W _ _ _ _ _ _ _ _ _ _ _ _ 230 _ [(vi 1)]
     refine W.ifN at_230 (n_eq (by decide)) ?_
     refine W.aload 14 at_233 rfl rfl ?_
     refine W.iconst (2) at_235 (by decide) ?_
     refine W.aload 5 at_236 rfl rfl ?_
     refine W.iload at_238 rfl ?_
     refine W.iload at_240 rfl ?_
     refine W.aload 6 at_242 rfl rfl ?_
     refine W.iload at_244 rfl ?_
     refine W.iconst (0) at_246 (by decide) ?_
     refine W.callS (as := [(vr a92), (vi 2), (vr a2), (vi g12), (vi g13), (vr a6), (vi g14), (vi 0)]) 0 [] at_247 (wq hw 178 rfl) (wq hw 179 rfl) (wq hw 180 rfl) (wq hw 181 rfl) (c83_at hw hs (hx1 := (by decide)) (hx2 := (by have := a_add g12 g13; have := q3; have := q1; have := ashl_1 g13; have := q0; have := a_add (0 : Int32) g13; have := ashr_1 g90; omega)) (hx3 := (by have := a_add g12 g13; have := q3; have := q1; have := ashl_1 g13; have := q0; have := a_add (0 : Int32) g13; have := ashr_1 g90; omega)) (hx4 := (by have := a_add g14 g15; have := q3; omega)) (hx5 := (by decide)) (hx6 := (by have := q1; have := ashl_1 g13; have := a_add g12 g13; have := q3; have := q0; have := a_add (0 : Int32) g13; have := ashr_1 g90; omega)) (hr0 := by have := q0; have := a_add g13 (0 : Int32); have := q1; have := ashr_1 g94; have := a_add g12 g13; have := q3; have := ashl_1 g13; have := a_add (0 : Int32) g13; have := ashr_1 g90; omega) (hr1 := by have := a_add g12 g13; have := q3; have := q1; have := ashl_1 g13; have := q0; have := a_add (0 : Int32) g13; have := ashr_1 g90; omega) (hr2 := by have := q0; have := a_add g14 (0 : Int32); have := q3; have := a_add g14 g15; omega) (l1 := [g3, g4, g5]) (hl_l1 := (len_q (k := 3) rfl (by decide))) (hb_l1 := (bl3 hg3 hg4 hg5)) (l2 := [g7, g8, g9]) (hl_l2 := (len_q (k := 3) rfl (by decide))) (hb_l2 := (bl3 hg7 hg8 hg9)) (l3 := gl95) (hl_l3 := hgl95) (hA := (fun h1 => hP3 _ (by have := q2; have := a_add g13 g15; have := q0; have := a_add g12 g13; have := q3; have := a_add g14 g15; have := q1; have := ashl_1 g13; have := a_add (0 : Int32) g13; have := ashr_1 g90; omega))) (hB := (fun h1 h2 => by exfalso; have := q2; have := q0; have := a_add g13 (0 : Int32); have := a_add g12 g13; have := q3; have := q1; have := ashl_1 g13; have := a_add (0 : Int32) g13; have := ashr_1 g90; omega)) (mp3 := m13) (mp1 := m16) (mp4 := m17) (mp2 := m12)) (by decide) pd_Ljava_lang_String_I_CII_CII_Z rfl rfl rfl rfl (by decide) (fun v D' h => ?_)
     obtain ⟨rfl, rfl⟩ := h
     show W _ _ _ _ _ _ _ _ _ _ _ _ 250 _ [(vi 1)]
     refine W.ifN at_250 (n_eq (by decide)) ?_
     refine W.iconst (1) at_253 (by decide) ?_
     refine W.goto 258 at_254 (by decide) ?_
     refine W.istore (ls' := #[iv z0, iv z1, iv z2, iv z3, iv z4, rv a2, rv a6, iv g12, iv g13, iv g14, iv g15, rv a17, rv a18, iv 1, rv a92, uu]) at_258 rfl ?_
     refine W.aload 11 at_260 rfl rfl ?_
     refine W.iconst (0) at_262 (by decide) ?_
     refine W.aload 6 at_263 rfl rfl ?_
     refine W.iconst (0) at_265 (by decide) ?_
     refine W.caload 0 at_266 m13 ix0 rfl ?_
     refine W.castore (D' := (a27, false, oString (vr a28) (vi 0)) :: (a28, false, ar "" .byte []) :: (a26, true, oArrayList (vi 0) (vr (og1 Z))) :: (a18, true, oXmlElement (vr a26) (vr a19) (vr a21) (vr a23) (vi 1) .null (vr a25) (vr a88)) :: (a25, true, oArrayList (vi 0) (vr (og1 Z))) :: (a23, false, oString (vr a24) (vi 0)) :: (a24, false, ar "" .byte [(vi 120)]) :: (a21, false, oString (vr a22) (vi 0)) :: (a22, false, ar "" .byte [(vi 120)]) :: (a19, false, oString (vr a20) (vi 0)) :: (a20, false, ar "" .byte []) :: (a17, true, ar "[C" .char [(vi g7), (vi g4), (vi g5)]) :: (a2, true, ar "[C" .char [(vi g3), (vi g4), (vi g5)]) :: (a6, true, ar "[C" .char [(vi g7), (vi g8), (vi g9)]) :: (a88, true, oStringBuilder (vr a89) (vi 1) (vi ((0 : Int32) + g13)) (vi 0)) :: (a89, true, ar "[B" .byte (lm gl91)) :: (a92, true, oString (vr a93) (vi 1)) :: (a93, true, ar "[B" .byte (lm gl95)) :: []) 11 0 at_267 rfl ix0 (Nat.le_of_ble_eq_true rfl) (z_narC hg7) rfl ?_
     refine W.aload 11 at_268 rfl rfl ?_
     refine W.iconst (1) at_270 (by decide) ?_
     refine W.aload 6 at_271 rfl rfl ?_
     refine W.iconst (1) at_273 (by decide) ?_
     refine W.caload 1 at_274 m13 ix1 rfl ?_
     refine W.castore (D' := (a27, false, oString (vr a28) (vi 0)) :: (a28, false, ar "" .byte []) :: (a26, true, oArrayList (vi 0) (vr (og1 Z))) :: (a18, true, oXmlElement (vr a26) (vr a19) (vr a21) (vr a23) (vi 1) .null (vr a25) (vr a88)) :: (a25, true, oArrayList (vi 0) (vr (og1 Z))) :: (a23, false, oString (vr a24) (vi 0)) :: (a24, false, ar "" .byte [(vi 120)]) :: (a21, false, oString (vr a22) (vi 0)) :: (a22, false, ar "" .byte [(vi 120)]) :: (a19, false, oString (vr a20) (vi 0)) :: (a20, false, ar "" .byte []) :: (a17, true, ar "[C" .char [(vi g7), (vi g8), (vi g5)]) :: (a2, true, ar "[C" .char [(vi g3), (vi g4), (vi g5)]) :: (a6, true, ar "[C" .char [(vi g7), (vi g8), (vi g9)]) :: (a88, true, oStringBuilder (vr a89) (vi 1) (vi ((0 : Int32) + g13)) (vi 0)) :: (a89, true, ar "[B" .byte (lm gl91)) :: (a92, true, oString (vr a93) (vi 1)) :: (a93, true, ar "[B" .byte (lm gl95)) :: []) 11 1 at_275 rfl ix1 (Nat.le_of_ble_eq_true rfl) (z_narC hg8) rfl ?_
     refine W.aload 11 at_276 rfl rfl ?_
     refine W.iconst (2) at_278 (by decide) ?_
     refine W.aload 6 at_279 rfl rfl ?_
     refine W.iconst (2) at_281 (by decide) ?_
     refine W.caload 2 at_282 m13 ix2 rfl ?_
     refine W.castore (D' := (a27, false, oString (vr a28) (vi 0)) :: (a28, false, ar "" .byte []) :: (a26, true, oArrayList (vi 0) (vr (og1 Z))) :: (a18, true, oXmlElement (vr a26) (vr a19) (vr a21) (vr a23) (vi 1) .null (vr a25) (vr a88)) :: (a25, true, oArrayList (vi 0) (vr (og1 Z))) :: (a23, false, oString (vr a24) (vi 0)) :: (a24, false, ar "" .byte [(vi 120)]) :: (a21, false, oString (vr a22) (vi 0)) :: (a22, false, ar "" .byte [(vi 120)]) :: (a19, false, oString (vr a20) (vi 0)) :: (a20, false, ar "" .byte []) :: (a17, true, ar "[C" .char [(vi g7), (vi g8), (vi g9)]) :: (a2, true, ar "[C" .char [(vi g3), (vi g4), (vi g5)]) :: (a6, true, ar "[C" .char [(vi g7), (vi g8), (vi g9)]) :: (a88, true, oStringBuilder (vr a89) (vi 1) (vi ((0 : Int32) + g13)) (vi 0)) :: (a89, true, ar "[B" .byte (lm gl91)) :: (a92, true, oString (vr a93) (vi 1)) :: (a93, true, ar "[B" .byte (lm gl95)) :: []) 11 2 at_283 rfl ix2 (Nat.le_of_ble_eq_true rfl) (z_narC hg9) rfl ?_
     have K105 : ∀ (a98 : Addr) (g99 : Int32) (gl100 : List Int32) (a101 : Addr) (a102 : Addr) (g103 : Int32) (gl104 : List Int32), -64 ≤ g99.toInt ∧ g99.toInt ≤ 130 → (gl100.length : Int) = g99.toInt → -64 ≤ g103.toInt ∧ g103.toInt ≤ 130 → (gl104.length : Int) = g103.toInt → (g103.toInt = ((g13 + g15) <<< ((1 : Int32) &&& 31)).toInt) → (∀ i, i < g13.toInt.toNat → dc 1 gl104 i = [g3, g4, g5].getD (g12.toInt.toNat + i) 0) → (∀ i, i < g15.toInt.toNat → dc 1 gl104 (g13.toInt.toNat + i) = [g7, g8, g9].getD (g14.toInt.toNat + i) 0) → W Z EL room_1 "com/example/montaje/montaje/xml/XmlElementAppendTextPinLaw" "law" code maxLocals ret (fun v _ => v = some (.int 1)) ((a27, false, oString (vr a28) (vi 0)) :: (a28, false, ar "" .byte []) :: (a26, true, oArrayList (vi 0) (vr (og1 Z))) :: (a18, true, oXmlElement (vr a26) (vr a19) (vr a21) (vr a23) (vi 1) .null (vr a25) (vr a88)) :: (a25, true, oArrayList (vi 0) (vr (og1 Z))) :: (a23, false, oString (vr a24) (vi 0)) :: (a24, false, ar "" .byte [(vi 120)]) :: (a21, false, oString (vr a22) (vi 0)) :: (a22, false, ar "" .byte [(vi 120)]) :: (a19, false, oString (vr a20) (vi 0)) :: (a20, false, ar "" .byte []) :: (a17, true, ar "[C" .char [(vi g7), (vi g8), (vi g9)]) :: (a2, true, ar "[C" .char [(vi g3), (vi g4), (vi g5)]) :: (a6, true, ar "[C" .char [(vi g7), (vi g8), (vi g9)]) :: (a88, true, oStringBuilder (vr a98) (vi 1) (vi (((0 : Int32) + g13) + g15)) (vi 0)) :: (a92, true, oString (vr a93) (vi 1)) :: (a93, true, ar "[B" .byte (lm gl95)) :: (a98, true, ar "[B" .byte (lm gl100)) :: (a101, true, oString (vr a102) (vi 1)) :: (a102, true, ar "[B" .byte (lm gl104)) :: []) 23 1589 302 #[iv z0, iv z1, iv z2, iv z3, iv z4, rv a2, rv a6, iv g12, iv g13, iv g14, iv g15, rv a17, rv a18, iv 1, rv a92, rv a101] [] := by
      intro a98 g99 gl100 a101 a102 g103 gl104 hg99 hgl100 hg103 hgl104 hQ1 hQ3 hQ4
      refine W.iload at_302 rfl ?_
      refine W.ifN at_304 (n_eq (by decide)) ?_
      refine W.aload 15 at_307 rfl rfl ?_
      refine W.callV (as := []) 0 [] at_309 (wq hw 68 rfl) (wq hw 69 rfl) (wq hw 71 rfl) (wq hw 71 rfl) (wq hw 70 rfl) (wq hw 6 rfl) (wq hw 72 rfl) (Hp.exa m18) (c81_length hw hs (hx1 := (by have := a_add g13 g15; have := q1; have := ashl_1 (g13 + g15); have := a_add g12 g13; have := q3; have := a_add g14 g15; have := ashl_1 g13; have := q0; have := a_add (0 : Int32) g13; have := ashr_1 g90; omega)) (l1 := gl104) (hl_l1 := hgl104) (mp1 := m18) (mp2 := m19)) (by decide) pd__I rfl rfl rfl rfl (by decide) (fun v D' h => ?_)
      obtain ⟨rfl, rfl⟩ := h
      show W _ _ _ _ _ _ _ _ _ _ _ _ 312 _ [(vi (g103 >>> ((1 : Int32) &&& 31)))]
      refine W.iload at_312 rfl ?_
      refine W.iload at_314 rfl ?_
      refine W.iadd at_316 ?_
      refine W.icmpN at_317 (n_ne (by have := q1; have := ashr_1 g103; have := a_add g13 g15; have := a_add g12 g13; have := q3; have := a_add g14 g15; have := ashl_1 g13; have := q0; have := a_add (0 : Int32) g13; have := ashr_1 g90; have := ashl_1 (g13 + g15); omega)) ?_
      refine W.aload 15 at_320 rfl rfl ?_
      refine W.iconst (0) at_322 (by decide) ?_
      refine W.aload 5 at_323 rfl rfl ?_
      refine W.iload at_325 rfl ?_
      refine W.iload at_327 rfl ?_
      refine W.aload 6 at_329 rfl rfl ?_
      refine W.iload at_331 rfl ?_
      refine W.iload at_333 rfl ?_
      refine W.callS (as := [(vr a101), (vi 0), (vr a2), (vi g12), (vi g13), (vr a6), (vi g14), (vi g15)]) 0 [] at_335 (wq hw 178 rfl) (wq hw 179 rfl) (wq hw 180 rfl) (wq hw 181 rfl) (c83_at hw hs (hx1 := (by decide)) (hx2 := (by have := a_add g12 g13; have := q3; have := q1; have := ashl_1 g13; have := q0; have := a_add (0 : Int32) g13; have := ashr_1 g90; have := a_add g13 g15; have := ashl_1 (g13 + g15); have := a_add g14 g15; omega)) (hx3 := (by have := a_add g12 g13; have := q3; have := q1; have := ashl_1 g13; have := q0; have := a_add (0 : Int32) g13; have := ashr_1 g90; have := a_add g13 g15; have := ashl_1 (g13 + g15); have := a_add g14 g15; omega)) (hx4 := (by have := a_add g14 g15; have := q3; have := a_add g13 g15; have := q1; have := ashl_1 (g13 + g15); have := a_add g12 g13; have := ashl_1 g13; have := q0; have := a_add (0 : Int32) g13; have := ashr_1 g90; omega)) (hx5 := (by have := a_add g14 g15; have := q3; have := a_add g13 g15; have := q1; have := ashl_1 (g13 + g15); have := a_add g12 g13; have := ashl_1 g13; have := q0; have := a_add (0 : Int32) g13; have := ashr_1 g90; omega)) (hx6 := (by have := a_add g13 g15; have := q1; have := ashl_1 (g13 + g15); have := a_add g12 g13; have := q3; have := a_add g14 g15; have := ashl_1 g13; have := q0; have := a_add (0 : Int32) g13; have := ashr_1 g90; omega)) (hr0 := by have := a_add g13 g15; have := q1; have := ashr_1 g103; have := a_add g12 g13; have := q3; have := a_add g14 g15; have := ashl_1 g13; have := q0; have := a_add (0 : Int32) g13; have := ashr_1 g90; have := ashl_1 (g13 + g15); omega) (hr1 := by have := a_add g12 g13; have := q3; have := q1; have := ashl_1 g13; have := q0; have := a_add (0 : Int32) g13; have := ashr_1 g90; have := a_add g13 g15; have := ashl_1 (g13 + g15); have := a_add g14 g15; omega) (hr2 := by have := a_add g14 g15; have := q3; have := a_add g13 g15; have := q1; have := ashl_1 (g13 + g15); have := a_add g12 g13; have := ashl_1 g13; have := q0; have := a_add (0 : Int32) g13; have := ashr_1 g90; omega) (l1 := [g3, g4, g5]) (hl_l1 := (len_q (k := 3) rfl (by decide))) (hb_l1 := (bl3 hg3 hg4 hg5)) (l2 := [g7, g8, g9]) (hl_l2 := (len_q (k := 3) rfl (by decide))) (hb_l2 := (bl3 hg7 hg8 hg9)) (l3 := gl104) (hl_l3 := hgl104) (hA := (fun h1 => hQ3 _ (by have := q0; have := a_add g13 g15; have := a_add g12 g13; have := q3; have := a_add g14 g15; have := q1; have := ashl_1 g13; have := a_add (0 : Int32) g13; have := ashr_1 g90; have := ashl_1 (g13 + g15); omega))) (hB := (fun h1 h2 => by have := q0; have := a_add g13 g15; have := a_add g12 g13; have := q3; have := a_add g14 g15; have := q1; have := ashl_1 g13; have := a_add (0 : Int32) g13; have := ashr_1 g90; have := ashl_1 (g13 + g15); have := hQ4 ((0 : Int32).toInt.toNat - g13.toInt.toNat) (by omega); rw [show g13.toInt.toNat + ((0 : Int32).toInt.toNat - g13.toInt.toNat) = (0 : Int32).toInt.toNat from by omega] at this; exact this)) (mp3 := m13) (mp1 := m18) (mp4 := m19) (mp2 := m12)) (by decide) pd_Ljava_lang_String_I_CII_CII_Z rfl rfl rfl rfl (by decide) (fun v D' h => ?_)
      obtain ⟨rfl, rfl⟩ := h
      show W _ _ _ _ _ _ _ _ _ _ _ _ 338 _ [(vi 1)]
      refine W.ifN at_338 (n_eq (by decide)) ?_
      refine W.aload 15 at_341 rfl rfl ?_
      refine W.iconst (1) at_343 (by decide) ?_
      refine W.aload 5 at_344 rfl rfl ?_
      refine W.iload at_346 rfl ?_
      refine W.iload at_348 rfl ?_
      refine W.aload 6 at_350 rfl rfl ?_
      refine W.iload at_352 rfl ?_
      refine W.iload at_354 rfl ?_
      refine W.callS (as := [(vr a101), (vi 1), (vr a2), (vi g12), (vi g13), (vr a6), (vi g14), (vi g15)]) 0 [] at_356 (wq hw 178 rfl) (wq hw 179 rfl) (wq hw 180 rfl) (wq hw 181 rfl) (c83_at hw hs (hx1 := (by decide)) (hx2 := (by have := a_add g12 g13; have := q3; have := q1; have := ashl_1 g13; have := q0; have := a_add (0 : Int32) g13; have := ashr_1 g90; have := a_add g13 g15; have := ashl_1 (g13 + g15); have := a_add g14 g15; omega)) (hx3 := (by have := a_add g12 g13; have := q3; have := q1; have := ashl_1 g13; have := q0; have := a_add (0 : Int32) g13; have := ashr_1 g90; have := a_add g13 g15; have := ashl_1 (g13 + g15); have := a_add g14 g15; omega)) (hx4 := (by have := a_add g14 g15; have := q3; have := a_add g13 g15; have := q1; have := ashl_1 (g13 + g15); have := a_add g12 g13; have := ashl_1 g13; have := q0; have := a_add (0 : Int32) g13; have := ashr_1 g90; omega)) (hx5 := (by have := a_add g14 g15; have := q3; have := a_add g13 g15; have := q1; have := ashl_1 (g13 + g15); have := a_add g12 g13; have := ashl_1 g13; have := q0; have := a_add (0 : Int32) g13; have := ashr_1 g90; omega)) (hx6 := (by have := a_add g13 g15; have := q1; have := ashl_1 (g13 + g15); have := a_add g12 g13; have := q3; have := a_add g14 g15; have := ashl_1 g13; have := q0; have := a_add (0 : Int32) g13; have := ashr_1 g90; omega)) (hr0 := by have := a_add g13 g15; have := q1; have := ashr_1 g103; have := a_add g12 g13; have := q3; have := a_add g14 g15; have := ashl_1 g13; have := q0; have := a_add (0 : Int32) g13; have := ashr_1 g90; have := ashl_1 (g13 + g15); omega) (hr1 := by have := a_add g12 g13; have := q3; have := q1; have := ashl_1 g13; have := q0; have := a_add (0 : Int32) g13; have := ashr_1 g90; have := a_add g13 g15; have := ashl_1 (g13 + g15); have := a_add g14 g15; omega) (hr2 := by have := a_add g14 g15; have := q3; have := a_add g13 g15; have := q1; have := ashl_1 (g13 + g15); have := a_add g12 g13; have := ashl_1 g13; have := q0; have := a_add (0 : Int32) g13; have := ashr_1 g90; omega) (l1 := [g3, g4, g5]) (hl_l1 := (len_q (k := 3) rfl (by decide))) (hb_l1 := (bl3 hg3 hg4 hg5)) (l2 := [g7, g8, g9]) (hl_l2 := (len_q (k := 3) rfl (by decide))) (hb_l2 := (bl3 hg7 hg8 hg9)) (l3 := gl104) (hl_l3 := hgl104) (hA := (fun h1 => hQ3 _ (by have := q1; have := a_add g13 g15; have := q0; have := a_add g12 g13; have := q3; have := a_add g14 g15; have := ashl_1 g13; have := a_add (0 : Int32) g13; have := ashr_1 g90; have := ashl_1 (g13 + g15); omega))) (hB := (fun h1 h2 => by have := q1; have := a_add g13 g15; have := q0; have := a_add g12 g13; have := q3; have := a_add g14 g15; have := ashl_1 g13; have := a_add (0 : Int32) g13; have := ashr_1 g90; have := ashl_1 (g13 + g15); have := hQ4 ((1 : Int32).toInt.toNat - g13.toInt.toNat) (by omega); rw [show g13.toInt.toNat + ((1 : Int32).toInt.toNat - g13.toInt.toNat) = (1 : Int32).toInt.toNat from by omega] at this; exact this)) (mp3 := m13) (mp1 := m18) (mp4 := m19) (mp2 := m12)) (by decide) pd_Ljava_lang_String_I_CII_CII_Z rfl rfl rfl rfl (by decide) (fun v D' h => ?_)
      obtain ⟨rfl, rfl⟩ := h
      show W _ _ _ _ _ _ _ _ _ _ _ _ 359 _ [(vi 1)]
      refine W.ifN at_359 (n_eq (by decide)) ?_
      refine W.aload 15 at_362 rfl rfl ?_
      refine W.iconst (2) at_364 (by decide) ?_
      refine W.aload 5 at_365 rfl rfl ?_
      refine W.iload at_367 rfl ?_
      refine W.iload at_369 rfl ?_
      refine W.aload 6 at_371 rfl rfl ?_
      refine W.iload at_373 rfl ?_
      refine W.iload at_375 rfl ?_
      refine W.callS (as := [(vr a101), (vi 2), (vr a2), (vi g12), (vi g13), (vr a6), (vi g14), (vi g15)]) 0 [] at_377 (wq hw 178 rfl) (wq hw 179 rfl) (wq hw 180 rfl) (wq hw 181 rfl) (c83_at hw hs (hx1 := (by decide)) (hx2 := (by have := a_add g12 g13; have := q3; have := q1; have := ashl_1 g13; have := q0; have := a_add (0 : Int32) g13; have := ashr_1 g90; have := a_add g13 g15; have := ashl_1 (g13 + g15); have := a_add g14 g15; omega)) (hx3 := (by have := a_add g12 g13; have := q3; have := q1; have := ashl_1 g13; have := q0; have := a_add (0 : Int32) g13; have := ashr_1 g90; have := a_add g13 g15; have := ashl_1 (g13 + g15); have := a_add g14 g15; omega)) (hx4 := (by have := a_add g14 g15; have := q3; have := a_add g13 g15; have := q1; have := ashl_1 (g13 + g15); have := a_add g12 g13; have := ashl_1 g13; have := q0; have := a_add (0 : Int32) g13; have := ashr_1 g90; omega)) (hx5 := (by have := a_add g14 g15; have := q3; have := a_add g13 g15; have := q1; have := ashl_1 (g13 + g15); have := a_add g12 g13; have := ashl_1 g13; have := q0; have := a_add (0 : Int32) g13; have := ashr_1 g90; omega)) (hx6 := (by have := a_add g13 g15; have := q1; have := ashl_1 (g13 + g15); have := a_add g12 g13; have := q3; have := a_add g14 g15; have := ashl_1 g13; have := q0; have := a_add (0 : Int32) g13; have := ashr_1 g90; omega)) (hr0 := by have := a_add g13 g15; have := q1; have := ashr_1 g103; have := a_add g12 g13; have := q3; have := a_add g14 g15; have := ashl_1 g13; have := q0; have := a_add (0 : Int32) g13; have := ashr_1 g90; have := ashl_1 (g13 + g15); omega) (hr1 := by have := a_add g12 g13; have := q3; have := q1; have := ashl_1 g13; have := q0; have := a_add (0 : Int32) g13; have := ashr_1 g90; have := a_add g13 g15; have := ashl_1 (g13 + g15); have := a_add g14 g15; omega) (hr2 := by have := a_add g14 g15; have := q3; have := a_add g13 g15; have := q1; have := ashl_1 (g13 + g15); have := a_add g12 g13; have := ashl_1 g13; have := q0; have := a_add (0 : Int32) g13; have := ashr_1 g90; omega) (l1 := [g3, g4, g5]) (hl_l1 := (len_q (k := 3) rfl (by decide))) (hb_l1 := (bl3 hg3 hg4 hg5)) (l2 := [g7, g8, g9]) (hl_l2 := (len_q (k := 3) rfl (by decide))) (hb_l2 := (bl3 hg7 hg8 hg9)) (l3 := gl104) (hl_l3 := hgl104) (hA := (fun h1 => hQ3 _ (by have := q2; have := a_add g13 g15; have := q0; have := a_add g12 g13; have := q3; have := a_add g14 g15; have := q1; have := ashl_1 g13; have := a_add (0 : Int32) g13; have := ashr_1 g90; have := ashl_1 (g13 + g15); omega))) (hB := (fun h1 h2 => by have := q2; have := a_add g13 g15; have := q0; have := a_add g12 g13; have := q3; have := a_add g14 g15; have := q1; have := ashl_1 g13; have := a_add (0 : Int32) g13; have := ashr_1 g90; have := ashl_1 (g13 + g15); have := hQ4 ((2 : Int32).toInt.toNat - g13.toInt.toNat) (by omega); rw [show g13.toInt.toNat + ((2 : Int32).toInt.toNat - g13.toInt.toNat) = (2 : Int32).toInt.toNat from by omega] at this; exact this)) (mp3 := m13) (mp1 := m18) (mp4 := m19) (mp2 := m12)) (by decide) pd_Ljava_lang_String_I_CII_CII_Z rfl rfl rfl rfl (by decide) (fun v D' h => ?_)
      obtain ⟨rfl, rfl⟩ := h
      show W _ _ _ _ _ _ _ _ _ _ _ _ 380 _ [(vi 1)]
      refine W.ifN at_380 (n_eq (by decide)) ?_
      refine W.aload 15 at_383 rfl rfl ?_
      refine W.iconst (3) at_385 (by decide) ?_
      refine W.aload 5 at_386 rfl rfl ?_
      refine W.iload at_388 rfl ?_
      refine W.iload at_390 rfl ?_
      refine W.aload 6 at_392 rfl rfl ?_
      refine W.iload at_394 rfl ?_
      refine W.iload at_396 rfl ?_
      refine W.callS (as := [(vr a101), (vi 3), (vr a2), (vi g12), (vi g13), (vr a6), (vi g14), (vi g15)]) 0 [] at_398 (wq hw 178 rfl) (wq hw 179 rfl) (wq hw 180 rfl) (wq hw 181 rfl) (c83_at hw hs (hx1 := (by decide)) (hx2 := (by have := a_add g12 g13; have := q3; have := q1; have := ashl_1 g13; have := q0; have := a_add (0 : Int32) g13; have := ashr_1 g90; have := a_add g13 g15; have := ashl_1 (g13 + g15); have := a_add g14 g15; omega)) (hx3 := (by have := a_add g12 g13; have := q3; have := q1; have := ashl_1 g13; have := q0; have := a_add (0 : Int32) g13; have := ashr_1 g90; have := a_add g13 g15; have := ashl_1 (g13 + g15); have := a_add g14 g15; omega)) (hx4 := (by have := a_add g14 g15; have := q3; have := a_add g13 g15; have := q1; have := ashl_1 (g13 + g15); have := a_add g12 g13; have := ashl_1 g13; have := q0; have := a_add (0 : Int32) g13; have := ashr_1 g90; omega)) (hx5 := (by have := a_add g14 g15; have := q3; have := a_add g13 g15; have := q1; have := ashl_1 (g13 + g15); have := a_add g12 g13; have := ashl_1 g13; have := q0; have := a_add (0 : Int32) g13; have := ashr_1 g90; omega)) (hx6 := (by have := a_add g13 g15; have := q1; have := ashl_1 (g13 + g15); have := a_add g12 g13; have := q3; have := a_add g14 g15; have := ashl_1 g13; have := q0; have := a_add (0 : Int32) g13; have := ashr_1 g90; omega)) (hr0 := by have := a_add g13 g15; have := q1; have := ashr_1 g103; have := a_add g12 g13; have := q3; have := a_add g14 g15; have := ashl_1 g13; have := q0; have := a_add (0 : Int32) g13; have := ashr_1 g90; have := ashl_1 (g13 + g15); omega) (hr1 := by have := a_add g12 g13; have := q3; have := q1; have := ashl_1 g13; have := q0; have := a_add (0 : Int32) g13; have := ashr_1 g90; have := a_add g13 g15; have := ashl_1 (g13 + g15); have := a_add g14 g15; omega) (hr2 := by have := a_add g14 g15; have := q3; have := a_add g13 g15; have := q1; have := ashl_1 (g13 + g15); have := a_add g12 g13; have := ashl_1 g13; have := q0; have := a_add (0 : Int32) g13; have := ashr_1 g90; omega) (l1 := [g3, g4, g5]) (hl_l1 := (len_q (k := 3) rfl (by decide))) (hb_l1 := (bl3 hg3 hg4 hg5)) (l2 := [g7, g8, g9]) (hl_l2 := (len_q (k := 3) rfl (by decide))) (hb_l2 := (bl3 hg7 hg8 hg9)) (l3 := gl104) (hl_l3 := hgl104) (hA := (fun h1 => hQ3 _ (by have := q3; have := a_add g13 g15; have := q0; have := a_add g12 g13; have := a_add g14 g15; have := q1; have := ashl_1 g13; have := a_add (0 : Int32) g13; have := ashr_1 g90; have := ashl_1 (g13 + g15); omega))) (hB := (fun h1 h2 => by have := q3; have := a_add g13 g15; have := q0; have := a_add g12 g13; have := a_add g14 g15; have := q1; have := ashl_1 g13; have := a_add (0 : Int32) g13; have := ashr_1 g90; have := ashl_1 (g13 + g15); have := hQ4 ((3 : Int32).toInt.toNat - g13.toInt.toNat) (by omega); rw [show g13.toInt.toNat + ((3 : Int32).toInt.toNat - g13.toInt.toNat) = (3 : Int32).toInt.toNat from by omega] at this; exact this)) (mp3 := m13) (mp1 := m18) (mp4 := m19) (mp2 := m12)) (by decide) pd_Ljava_lang_String_I_CII_CII_Z rfl rfl rfl rfl (by decide) (fun v D' h => ?_)
      obtain ⟨rfl, rfl⟩ := h
      show W _ _ _ _ _ _ _ _ _ _ _ _ 401 _ [(vi 1)]
      refine W.ifN at_401 (n_eq (by decide)) ?_
      refine W.aload 15 at_404 rfl rfl ?_
      refine W.iconst (4) at_406 (by decide) ?_
      refine W.aload 5 at_407 rfl rfl ?_
      refine W.iload at_409 rfl ?_
      refine W.iload at_411 rfl ?_
      refine W.aload 6 at_413 rfl rfl ?_
      refine W.iload at_415 rfl ?_
      refine W.iload at_417 rfl ?_
      refine W.callS (as := [(vr a101), (vi 4), (vr a2), (vi g12), (vi g13), (vr a6), (vi g14), (vi g15)]) 0 [] at_419 (wq hw 178 rfl) (wq hw 179 rfl) (wq hw 180 rfl) (wq hw 181 rfl) (c83_at hw hs (hx1 := (by decide)) (hx2 := (by have := a_add g12 g13; have := q3; have := q1; have := ashl_1 g13; have := q0; have := a_add (0 : Int32) g13; have := ashr_1 g90; have := a_add g13 g15; have := ashl_1 (g13 + g15); have := a_add g14 g15; omega)) (hx3 := (by have := a_add g12 g13; have := q3; have := q1; have := ashl_1 g13; have := q0; have := a_add (0 : Int32) g13; have := ashr_1 g90; have := a_add g13 g15; have := ashl_1 (g13 + g15); have := a_add g14 g15; omega)) (hx4 := (by have := a_add g14 g15; have := q3; have := a_add g13 g15; have := q1; have := ashl_1 (g13 + g15); have := a_add g12 g13; have := ashl_1 g13; have := q0; have := a_add (0 : Int32) g13; have := ashr_1 g90; omega)) (hx5 := (by have := a_add g14 g15; have := q3; have := a_add g13 g15; have := q1; have := ashl_1 (g13 + g15); have := a_add g12 g13; have := ashl_1 g13; have := q0; have := a_add (0 : Int32) g13; have := ashr_1 g90; omega)) (hx6 := (by have := a_add g13 g15; have := q1; have := ashl_1 (g13 + g15); have := a_add g12 g13; have := q3; have := a_add g14 g15; have := ashl_1 g13; have := q0; have := a_add (0 : Int32) g13; have := ashr_1 g90; omega)) (hr0 := by have := a_add g13 g15; have := q1; have := ashr_1 g103; have := a_add g12 g13; have := q3; have := a_add g14 g15; have := ashl_1 g13; have := q0; have := a_add (0 : Int32) g13; have := ashr_1 g90; have := ashl_1 (g13 + g15); omega) (hr1 := by have := a_add g12 g13; have := q3; have := q1; have := ashl_1 g13; have := q0; have := a_add (0 : Int32) g13; have := ashr_1 g90; have := a_add g13 g15; have := ashl_1 (g13 + g15); have := a_add g14 g15; omega) (hr2 := by have := a_add g14 g15; have := q3; have := a_add g13 g15; have := q1; have := ashl_1 (g13 + g15); have := a_add g12 g13; have := ashl_1 g13; have := q0; have := a_add (0 : Int32) g13; have := ashr_1 g90; omega) (l1 := [g3, g4, g5]) (hl_l1 := (len_q (k := 3) rfl (by decide))) (hb_l1 := (bl3 hg3 hg4 hg5)) (l2 := [g7, g8, g9]) (hl_l2 := (len_q (k := 3) rfl (by decide))) (hb_l2 := (bl3 hg7 hg8 hg9)) (l3 := gl104) (hl_l3 := hgl104) (hA := (fun h1 => hQ3 _ (by have := q4; have := a_add g13 g15; have := q0; have := a_add g12 g13; have := q3; have := a_add g14 g15; have := q1; have := ashl_1 g13; have := a_add (0 : Int32) g13; have := ashr_1 g90; have := ashl_1 (g13 + g15); omega))) (hB := (fun h1 h2 => by have := q4; have := a_add g13 g15; have := q0; have := a_add g12 g13; have := q3; have := a_add g14 g15; have := q1; have := ashl_1 g13; have := a_add (0 : Int32) g13; have := ashr_1 g90; have := ashl_1 (g13 + g15); have := hQ4 ((4 : Int32).toInt.toNat - g13.toInt.toNat) (by omega); rw [show g13.toInt.toNat + ((4 : Int32).toInt.toNat - g13.toInt.toNat) = (4 : Int32).toInt.toNat from by omega] at this; exact this)) (mp3 := m13) (mp1 := m18) (mp4 := m19) (mp2 := m12)) (by decide) pd_Ljava_lang_String_I_CII_CII_Z rfl rfl rfl rfl (by decide) (fun v D' h => ?_)
      obtain ⟨rfl, rfl⟩ := h
      show W _ _ _ _ _ _ _ _ _ _ _ _ 422 _ [(vi 1)]
      refine W.ifN at_422 (n_eq (by decide)) ?_
      refine W.aload 15 at_425 rfl rfl ?_
      refine W.iconst (5) at_427 (by decide) ?_
      refine W.aload 5 at_428 rfl rfl ?_
      refine W.iload at_430 rfl ?_
      refine W.iload at_432 rfl ?_
      refine W.aload 6 at_434 rfl rfl ?_
      refine W.iload at_436 rfl ?_
      refine W.iload at_438 rfl ?_
      refine W.callS (as := [(vr a101), (vi 5), (vr a2), (vi g12), (vi g13), (vr a6), (vi g14), (vi g15)]) 0 [] at_440 (wq hw 178 rfl) (wq hw 179 rfl) (wq hw 180 rfl) (wq hw 181 rfl) (c83_at hw hs (hx1 := (by decide)) (hx2 := (by have := a_add g12 g13; have := q3; have := q1; have := ashl_1 g13; have := q0; have := a_add (0 : Int32) g13; have := ashr_1 g90; have := a_add g13 g15; have := ashl_1 (g13 + g15); have := a_add g14 g15; omega)) (hx3 := (by have := a_add g12 g13; have := q3; have := q1; have := ashl_1 g13; have := q0; have := a_add (0 : Int32) g13; have := ashr_1 g90; have := a_add g13 g15; have := ashl_1 (g13 + g15); have := a_add g14 g15; omega)) (hx4 := (by have := a_add g14 g15; have := q3; have := a_add g13 g15; have := q1; have := ashl_1 (g13 + g15); have := a_add g12 g13; have := ashl_1 g13; have := q0; have := a_add (0 : Int32) g13; have := ashr_1 g90; omega)) (hx5 := (by have := a_add g14 g15; have := q3; have := a_add g13 g15; have := q1; have := ashl_1 (g13 + g15); have := a_add g12 g13; have := ashl_1 g13; have := q0; have := a_add (0 : Int32) g13; have := ashr_1 g90; omega)) (hx6 := (by have := a_add g13 g15; have := q1; have := ashl_1 (g13 + g15); have := a_add g12 g13; have := q3; have := a_add g14 g15; have := ashl_1 g13; have := q0; have := a_add (0 : Int32) g13; have := ashr_1 g90; omega)) (hr0 := by have := a_add g13 g15; have := q1; have := ashr_1 g103; have := a_add g12 g13; have := q3; have := a_add g14 g15; have := ashl_1 g13; have := q0; have := a_add (0 : Int32) g13; have := ashr_1 g90; have := ashl_1 (g13 + g15); omega) (hr1 := by have := a_add g12 g13; have := q3; have := q1; have := ashl_1 g13; have := q0; have := a_add (0 : Int32) g13; have := ashr_1 g90; have := a_add g13 g15; have := ashl_1 (g13 + g15); have := a_add g14 g15; omega) (hr2 := by have := a_add g14 g15; have := q3; have := a_add g13 g15; have := q1; have := ashl_1 (g13 + g15); have := a_add g12 g13; have := ashl_1 g13; have := q0; have := a_add (0 : Int32) g13; have := ashr_1 g90; omega) (l1 := [g3, g4, g5]) (hl_l1 := (len_q (k := 3) rfl (by decide))) (hb_l1 := (bl3 hg3 hg4 hg5)) (l2 := [g7, g8, g9]) (hl_l2 := (len_q (k := 3) rfl (by decide))) (hb_l2 := (bl3 hg7 hg8 hg9)) (l3 := gl104) (hl_l3 := hgl104) (hA := (fun h1 => hQ3 _ (by have := q5; have := a_add g13 g15; have := q0; have := a_add g12 g13; have := q3; have := a_add g14 g15; have := q1; have := ashl_1 g13; have := a_add (0 : Int32) g13; have := ashr_1 g90; have := ashl_1 (g13 + g15); omega))) (hB := (fun h1 h2 => by have := q5; have := a_add g13 g15; have := q0; have := a_add g12 g13; have := q3; have := a_add g14 g15; have := q1; have := ashl_1 g13; have := a_add (0 : Int32) g13; have := ashr_1 g90; have := ashl_1 (g13 + g15); have := hQ4 ((5 : Int32).toInt.toNat - g13.toInt.toNat) (by omega); rw [show g13.toInt.toNat + ((5 : Int32).toInt.toNat - g13.toInt.toNat) = (5 : Int32).toInt.toNat from by omega] at this; exact this)) (mp3 := m13) (mp1 := m18) (mp4 := m19) (mp2 := m12)) (by decide) pd_Ljava_lang_String_I_CII_CII_Z rfl rfl rfl rfl (by decide) (fun v D' h => ?_)
      obtain ⟨rfl, rfl⟩ := h
      show W _ _ _ _ _ _ _ _ _ _ _ _ 443 _ [(vi 1)]
      refine W.ifN at_443 (n_eq (by decide)) ?_
      refine W.iconst (1) at_446 (by decide) ?_
      refine W.goto 451 at_447 (by decide) ?_
      refine W.istore (ls' := #[iv z0, iv z1, iv z2, iv z3, iv z4, rv a2, rv a6, iv g12, iv g13, iv g14, iv g15, rv a17, rv a18, iv 1, rv a92, rv a101]) at_451 rfl ?_
      refine W.iload at_453 rfl ?_
      exact W.ireturn at_455 rfl (Or.inr (Or.inl rfl)) (nw_bool (by decide)) (by decide) rfl
     refine W.aload 12 at_284 rfl rfl ?_
     refine W.aload 11 at_286 rfl rfl ?_
     refine W.iload at_288 rfl ?_
     refine W.iload at_290 rfl ?_
     refine W.front 14 (D' := (a88, true, oStringBuilder (vr a89) (vi 1) (vi ((0 : Int32) + g13)) (vi 0)) :: (a27, false, oString (vr a28) (vi 0)) :: (a28, false, ar "" .byte []) :: (a26, true, oArrayList (vi 0) (vr (og1 Z))) :: (a18, true, oXmlElement (vr a26) (vr a19) (vr a21) (vr a23) (vi 1) .null (vr a25) (vr a88)) :: (a25, true, oArrayList (vi 0) (vr (og1 Z))) :: (a23, false, oString (vr a24) (vi 0)) :: (a24, false, ar "" .byte [(vi 120)]) :: (a21, false, oString (vr a22) (vi 0)) :: (a22, false, ar "" .byte [(vi 120)]) :: (a19, false, oString (vr a20) (vi 0)) :: (a20, false, ar "" .byte []) :: (a17, true, ar "[C" .char [(vi g7), (vi g8), (vi g9)]) :: (a2, true, ar "[C" .char [(vi g3), (vi g4), (vi g5)]) :: (a6, true, ar "[C" .char [(vi g7), (vi g8), (vi g9)]) :: (a89, true, ar "[B" .byte (lm gl91)) :: (a92, true, oString (vr a93) (vi 1)) :: (a93, true, ar "[B" .byte (lm gl95)) :: []) rfl rfl ?_
     refine W.front 15 (D' := (a89, true, ar "[B" .byte (lm gl91)) :: (a88, true, oStringBuilder (vr a89) (vi 1) (vi ((0 : Int32) + g13)) (vi 0)) :: (a27, false, oString (vr a28) (vi 0)) :: (a28, false, ar "" .byte []) :: (a26, true, oArrayList (vi 0) (vr (og1 Z))) :: (a18, true, oXmlElement (vr a26) (vr a19) (vr a21) (vr a23) (vi 1) .null (vr a25) (vr a88)) :: (a25, true, oArrayList (vi 0) (vr (og1 Z))) :: (a23, false, oString (vr a24) (vi 0)) :: (a24, false, ar "" .byte [(vi 120)]) :: (a21, false, oString (vr a22) (vi 0)) :: (a22, false, ar "" .byte [(vi 120)]) :: (a19, false, oString (vr a20) (vi 0)) :: (a20, false, ar "" .byte []) :: (a17, true, ar "[C" .char [(vi g7), (vi g8), (vi g9)]) :: (a2, true, ar "[C" .char [(vi g3), (vi g4), (vi g5)]) :: (a6, true, ar "[C" .char [(vi g7), (vi g8), (vi g9)]) :: (a92, true, oString (vr a93) (vi 1)) :: (a93, true, ar "[B" .byte (lm gl95)) :: []) rfl rfl ?_
     refine W.callV (as := [(vr a17), (vi g14), (vi g15)]) 0 [] at_292 (wq hw 81 rfl) (wq hw 82 rfl) (wq hw 84 rfl) (wq hw 84 rfl) (wq hw 83 rfl) (wq hw 4 rfl) (wq hw 85 rfl) (Hp.exa m5) (c89_appendText hw hs (hx1 := (by have := a_add g14 g15; have := q3; omega)) (hx2 := (by have := a_add g14 g15; have := q3; omega)) (hx3 := (by have := q0; have := a_add (0 : Int32) g13; have := a_add g12 g13; have := q3; have := q1; have := ashl_1 g13; have := ashr_1 g90; omega)) (hx4 := (by have := q0; have := a_add (0 : Int32) g13; have := q1; have := ashr_1 g90; have := a_add g12 g13; have := q3; have := ashl_1 g13; omega)) (hr0 := by have := a_add g14 g15; have := q3; omega) (hr1 := by have := q0; have := a_add (0 : Int32) g13; have := q1; have := ashr_1 g90; have := a_add g12 g13; have := q3; have := ashl_1 g13; omega) (l1 := [g7, g8, g9]) (hl_l1 := (len_q (k := 3) rfl (by decide))) (hb_l1 := (bl3 hg7 hg8 hg9)) (l2 := gl91) (hl_l2 := hgl91) (mp1 := m3) (mp2 := m11)) (by decide) pd__CII_V rfl rfl rfl rfl (by decide) (fun v D' h => ?_)
     obtain ⟨a106, g107, gl109, hg107, hf108, hgl109, hp110, rfl, rfl⟩ := h
     show W _ _ _ _ _ _ _ _ _ _ _ _ 295 _ []
     refine W.aload 12 at_295 rfl rfl ?_
     refine W.callV (as := []) 0 [] at_297 (wq hw 60 rfl) (wq hw 61 rfl) (wq hw 63 rfl) (wq hw 63 rfl) (wq hw 62 rfl) (wq hw 4 rfl) (wq hw 64 rfl) (Hp.exa m5) (c74_text hw hs (hx1 := (by have := q0; have := a_add (0 : Int32) g13; have := a_add ((0 : Int32) + g13) g15; have := a_add g12 g13; have := q3; have := a_add g14 g15; have := q1; have := ashl_1 g13; have := ashr_1 g90; have := ashr_1 g107; omega)) (hx2 := (by have := q0; have := a_add (0 : Int32) g13; have := a_add ((0 : Int32) + g13) g15; have := q1; have := ashr_1 g107; have := a_add g12 g13; have := q3; have := a_add g14 g15; have := ashl_1 g13; have := ashr_1 g90; omega)) (hr0 := by have := q0; have := a_add (0 : Int32) g13; have := a_add ((0 : Int32) + g13) g15; have := q1; have := ashr_1 g107; have := a_add g12 g13; have := q3; have := a_add g14 g15; have := ashl_1 g13; have := ashr_1 g90; omega) (l1 := gl109) (hl_l1 := hgl109) (mp1 := m5) (mp7 := m1) (mp11 := m0)) (by decide) pd__Ljava_lang_String_ rfl rfl rfl rfl (by decide) (fun v D' h => ?_)
     rcases h with ⟨a111, a112, h7, rfl, rfl⟩ | ⟨a113, a114, h8, h9, hl115, rfl, rfl⟩
     ·
      have ih7 := t_eq h7
      show W _ _ _ _ _ _ _ _ _ _ _ _ 300 _ [(vr a111)]
      refine W.astore (ls' := #[iv z0, iv z1, iv z2, iv z3, iv z4, rv a2, rv a6, iv g12, iv g13, iv g14, iv g15, rv a17, rv a18, iv 1, rv a92, rv a111]) at_300 rfl rfl ?_
      refine W.front 1 (D' := (a111, true, oString (vr a112) (vi 1)) :: (a112, true, ar "[B" .byte (lm gl109)) :: (a106, true, ar "[B" .byte (lm gl109)) :: (a88, true, oStringBuilder (vr a106) (vi 1) (vi (((0 : Int32) + g13) + g15)) (vi 0)) :: (a27, false, oString (vr a28) (vi 0)) :: (a28, false, ar "" .byte []) :: (a26, true, oArrayList (vi 0) (vr (og1 Z))) :: (a18, true, oXmlElement (vr a26) (vr a19) (vr a21) (vr a23) (vi 1) .null (vr a25) (vr a88)) :: (a25, true, oArrayList (vi 0) (vr (og1 Z))) :: (a23, false, oString (vr a24) (vi 0)) :: (a24, false, ar "" .byte [(vi 120)]) :: (a21, false, oString (vr a22) (vi 0)) :: (a22, false, ar "" .byte [(vi 120)]) :: (a19, false, oString (vr a20) (vi 0)) :: (a20, false, ar "" .byte []) :: (a17, true, ar "[C" .char [(vi g7), (vi g8), (vi g9)]) :: (a2, true, ar "[C" .char [(vi g3), (vi g4), (vi g5)]) :: (a6, true, ar "[C" .char [(vi g7), (vi g8), (vi g9)]) :: (a92, true, oString (vr a93) (vi 1)) :: (a93, true, ar "[B" .byte (lm gl95)) :: []) rfl rfl ?_
      refine W.front 2 (D' := (a106, true, ar "[B" .byte (lm gl109)) :: (a111, true, oString (vr a112) (vi 1)) :: (a112, true, ar "[B" .byte (lm gl109)) :: (a88, true, oStringBuilder (vr a106) (vi 1) (vi (((0 : Int32) + g13) + g15)) (vi 0)) :: (a27, false, oString (vr a28) (vi 0)) :: (a28, false, ar "" .byte []) :: (a26, true, oArrayList (vi 0) (vr (og1 Z))) :: (a18, true, oXmlElement (vr a26) (vr a19) (vr a21) (vr a23) (vi 1) .null (vr a25) (vr a88)) :: (a25, true, oArrayList (vi 0) (vr (og1 Z))) :: (a23, false, oString (vr a24) (vi 0)) :: (a24, false, ar "" .byte [(vi 120)]) :: (a21, false, oString (vr a22) (vi 0)) :: (a22, false, ar "" .byte [(vi 120)]) :: (a19, false, oString (vr a20) (vi 0)) :: (a20, false, ar "" .byte []) :: (a17, true, ar "[C" .char [(vi g7), (vi g8), (vi g9)]) :: (a2, true, ar "[C" .char [(vi g3), (vi g4), (vi g5)]) :: (a6, true, ar "[C" .char [(vi g7), (vi g8), (vi g9)]) :: (a92, true, oString (vr a93) (vi 1)) :: (a93, true, ar "[B" .byte (lm gl95)) :: []) rfl rfl ?_
      refine W.front 19 (D' := (a93, true, ar "[B" .byte (lm gl95)) :: (a106, true, ar "[B" .byte (lm gl109)) :: (a111, true, oString (vr a112) (vi 1)) :: (a112, true, ar "[B" .byte (lm gl109)) :: (a88, true, oStringBuilder (vr a106) (vi 1) (vi (((0 : Int32) + g13) + g15)) (vi 0)) :: (a27, false, oString (vr a28) (vi 0)) :: (a28, false, ar "" .byte []) :: (a26, true, oArrayList (vi 0) (vr (og1 Z))) :: (a18, true, oXmlElement (vr a26) (vr a19) (vr a21) (vr a23) (vi 1) .null (vr a25) (vr a88)) :: (a25, true, oArrayList (vi 0) (vr (og1 Z))) :: (a23, false, oString (vr a24) (vi 0)) :: (a24, false, ar "" .byte [(vi 120)]) :: (a21, false, oString (vr a22) (vi 0)) :: (a22, false, ar "" .byte [(vi 120)]) :: (a19, false, oString (vr a20) (vi 0)) :: (a20, false, ar "" .byte []) :: (a17, true, ar "[C" .char [(vi g7), (vi g8), (vi g9)]) :: (a2, true, ar "[C" .char [(vi g3), (vi g4), (vi g5)]) :: (a6, true, ar "[C" .char [(vi g7), (vi g8), (vi g9)]) :: (a92, true, oString (vr a93) (vi 1)) :: []) rfl rfl ?_
      refine W.front 19 (D' := (a92, true, oString (vr a93) (vi 1)) :: (a93, true, ar "[B" .byte (lm gl95)) :: (a106, true, ar "[B" .byte (lm gl109)) :: (a111, true, oString (vr a112) (vi 1)) :: (a112, true, ar "[B" .byte (lm gl109)) :: (a88, true, oStringBuilder (vr a106) (vi 1) (vi (((0 : Int32) + g13) + g15)) (vi 0)) :: (a27, false, oString (vr a28) (vi 0)) :: (a28, false, ar "" .byte []) :: (a26, true, oArrayList (vi 0) (vr (og1 Z))) :: (a18, true, oXmlElement (vr a26) (vr a19) (vr a21) (vr a23) (vi 1) .null (vr a25) (vr a88)) :: (a25, true, oArrayList (vi 0) (vr (og1 Z))) :: (a23, false, oString (vr a24) (vi 0)) :: (a24, false, ar "" .byte [(vi 120)]) :: (a21, false, oString (vr a22) (vi 0)) :: (a22, false, ar "" .byte [(vi 120)]) :: (a19, false, oString (vr a20) (vi 0)) :: (a20, false, ar "" .byte []) :: (a17, true, ar "[C" .char [(vi g7), (vi g8), (vi g9)]) :: (a2, true, ar "[C" .char [(vi g3), (vi g4), (vi g5)]) :: (a6, true, ar "[C" .char [(vi g7), (vi g8), (vi g9)]) :: []) rfl rfl ?_
      refine W.front 5 (D' := (a88, true, oStringBuilder (vr a106) (vi 1) (vi (((0 : Int32) + g13) + g15)) (vi 0)) :: (a92, true, oString (vr a93) (vi 1)) :: (a93, true, ar "[B" .byte (lm gl95)) :: (a106, true, ar "[B" .byte (lm gl109)) :: (a111, true, oString (vr a112) (vi 1)) :: (a112, true, ar "[B" .byte (lm gl109)) :: (a27, false, oString (vr a28) (vi 0)) :: (a28, false, ar "" .byte []) :: (a26, true, oArrayList (vi 0) (vr (og1 Z))) :: (a18, true, oXmlElement (vr a26) (vr a19) (vr a21) (vr a23) (vi 1) .null (vr a25) (vr a88)) :: (a25, true, oArrayList (vi 0) (vr (og1 Z))) :: (a23, false, oString (vr a24) (vi 0)) :: (a24, false, ar "" .byte [(vi 120)]) :: (a21, false, oString (vr a22) (vi 0)) :: (a22, false, ar "" .byte [(vi 120)]) :: (a19, false, oString (vr a20) (vi 0)) :: (a20, false, ar "" .byte []) :: (a17, true, ar "[C" .char [(vi g7), (vi g8), (vi g9)]) :: (a2, true, ar "[C" .char [(vi g3), (vi g4), (vi g5)]) :: (a6, true, ar "[C" .char [(vi g7), (vi g8), (vi g9)]) :: []) rfl rfl ?_
      refine W.front 19 (D' := (a6, true, ar "[C" .char [(vi g7), (vi g8), (vi g9)]) :: (a88, true, oStringBuilder (vr a106) (vi 1) (vi (((0 : Int32) + g13) + g15)) (vi 0)) :: (a92, true, oString (vr a93) (vi 1)) :: (a93, true, ar "[B" .byte (lm gl95)) :: (a106, true, ar "[B" .byte (lm gl109)) :: (a111, true, oString (vr a112) (vi 1)) :: (a112, true, ar "[B" .byte (lm gl109)) :: (a27, false, oString (vr a28) (vi 0)) :: (a28, false, ar "" .byte []) :: (a26, true, oArrayList (vi 0) (vr (og1 Z))) :: (a18, true, oXmlElement (vr a26) (vr a19) (vr a21) (vr a23) (vi 1) .null (vr a25) (vr a88)) :: (a25, true, oArrayList (vi 0) (vr (og1 Z))) :: (a23, false, oString (vr a24) (vi 0)) :: (a24, false, ar "" .byte [(vi 120)]) :: (a21, false, oString (vr a22) (vi 0)) :: (a22, false, ar "" .byte [(vi 120)]) :: (a19, false, oString (vr a20) (vi 0)) :: (a20, false, ar "" .byte []) :: (a17, true, ar "[C" .char [(vi g7), (vi g8), (vi g9)]) :: (a2, true, ar "[C" .char [(vi g3), (vi g4), (vi g5)]) :: []) rfl rfl ?_
      refine W.front 19 (D' := (a2, true, ar "[C" .char [(vi g3), (vi g4), (vi g5)]) :: (a6, true, ar "[C" .char [(vi g7), (vi g8), (vi g9)]) :: (a88, true, oStringBuilder (vr a106) (vi 1) (vi (((0 : Int32) + g13) + g15)) (vi 0)) :: (a92, true, oString (vr a93) (vi 1)) :: (a93, true, ar "[B" .byte (lm gl95)) :: (a106, true, ar "[B" .byte (lm gl109)) :: (a111, true, oString (vr a112) (vi 1)) :: (a112, true, ar "[B" .byte (lm gl109)) :: (a27, false, oString (vr a28) (vi 0)) :: (a28, false, ar "" .byte []) :: (a26, true, oArrayList (vi 0) (vr (og1 Z))) :: (a18, true, oXmlElement (vr a26) (vr a19) (vr a21) (vr a23) (vi 1) .null (vr a25) (vr a88)) :: (a25, true, oArrayList (vi 0) (vr (og1 Z))) :: (a23, false, oString (vr a24) (vi 0)) :: (a24, false, ar "" .byte [(vi 120)]) :: (a21, false, oString (vr a22) (vi 0)) :: (a22, false, ar "" .byte [(vi 120)]) :: (a19, false, oString (vr a20) (vi 0)) :: (a20, false, ar "" .byte []) :: (a17, true, ar "[C" .char [(vi g7), (vi g8), (vi g9)]) :: []) rfl rfl ?_
      refine W.front 19 (D' := (a17, true, ar "[C" .char [(vi g7), (vi g8), (vi g9)]) :: (a2, true, ar "[C" .char [(vi g3), (vi g4), (vi g5)]) :: (a6, true, ar "[C" .char [(vi g7), (vi g8), (vi g9)]) :: (a88, true, oStringBuilder (vr a106) (vi 1) (vi (((0 : Int32) + g13) + g15)) (vi 0)) :: (a92, true, oString (vr a93) (vi 1)) :: (a93, true, ar "[B" .byte (lm gl95)) :: (a106, true, ar "[B" .byte (lm gl109)) :: (a111, true, oString (vr a112) (vi 1)) :: (a112, true, ar "[B" .byte (lm gl109)) :: (a27, false, oString (vr a28) (vi 0)) :: (a28, false, ar "" .byte []) :: (a26, true, oArrayList (vi 0) (vr (og1 Z))) :: (a18, true, oXmlElement (vr a26) (vr a19) (vr a21) (vr a23) (vi 1) .null (vr a25) (vr a88)) :: (a25, true, oArrayList (vi 0) (vr (og1 Z))) :: (a23, false, oString (vr a24) (vi 0)) :: (a24, false, ar "" .byte [(vi 120)]) :: (a21, false, oString (vr a22) (vi 0)) :: (a22, false, ar "" .byte [(vi 120)]) :: (a19, false, oString (vr a20) (vi 0)) :: (a20, false, ar "" .byte []) :: []) rfl rfl ?_
      refine W.front 19 (D' := (a20, false, ar "" .byte []) :: (a17, true, ar "[C" .char [(vi g7), (vi g8), (vi g9)]) :: (a2, true, ar "[C" .char [(vi g3), (vi g4), (vi g5)]) :: (a6, true, ar "[C" .char [(vi g7), (vi g8), (vi g9)]) :: (a88, true, oStringBuilder (vr a106) (vi 1) (vi (((0 : Int32) + g13) + g15)) (vi 0)) :: (a92, true, oString (vr a93) (vi 1)) :: (a93, true, ar "[B" .byte (lm gl95)) :: (a106, true, ar "[B" .byte (lm gl109)) :: (a111, true, oString (vr a112) (vi 1)) :: (a112, true, ar "[B" .byte (lm gl109)) :: (a27, false, oString (vr a28) (vi 0)) :: (a28, false, ar "" .byte []) :: (a26, true, oArrayList (vi 0) (vr (og1 Z))) :: (a18, true, oXmlElement (vr a26) (vr a19) (vr a21) (vr a23) (vi 1) .null (vr a25) (vr a88)) :: (a25, true, oArrayList (vi 0) (vr (og1 Z))) :: (a23, false, oString (vr a24) (vi 0)) :: (a24, false, ar "" .byte [(vi 120)]) :: (a21, false, oString (vr a22) (vi 0)) :: (a22, false, ar "" .byte [(vi 120)]) :: (a19, false, oString (vr a20) (vi 0)) :: []) rfl rfl ?_
      refine W.front 19 (D' := (a19, false, oString (vr a20) (vi 0)) :: (a20, false, ar "" .byte []) :: (a17, true, ar "[C" .char [(vi g7), (vi g8), (vi g9)]) :: (a2, true, ar "[C" .char [(vi g3), (vi g4), (vi g5)]) :: (a6, true, ar "[C" .char [(vi g7), (vi g8), (vi g9)]) :: (a88, true, oStringBuilder (vr a106) (vi 1) (vi (((0 : Int32) + g13) + g15)) (vi 0)) :: (a92, true, oString (vr a93) (vi 1)) :: (a93, true, ar "[B" .byte (lm gl95)) :: (a106, true, ar "[B" .byte (lm gl109)) :: (a111, true, oString (vr a112) (vi 1)) :: (a112, true, ar "[B" .byte (lm gl109)) :: (a27, false, oString (vr a28) (vi 0)) :: (a28, false, ar "" .byte []) :: (a26, true, oArrayList (vi 0) (vr (og1 Z))) :: (a18, true, oXmlElement (vr a26) (vr a19) (vr a21) (vr a23) (vi 1) .null (vr a25) (vr a88)) :: (a25, true, oArrayList (vi 0) (vr (og1 Z))) :: (a23, false, oString (vr a24) (vi 0)) :: (a24, false, ar "" .byte [(vi 120)]) :: (a21, false, oString (vr a22) (vi 0)) :: (a22, false, ar "" .byte [(vi 120)]) :: []) rfl rfl ?_
      refine W.front 19 (D' := (a22, false, ar "" .byte [(vi 120)]) :: (a19, false, oString (vr a20) (vi 0)) :: (a20, false, ar "" .byte []) :: (a17, true, ar "[C" .char [(vi g7), (vi g8), (vi g9)]) :: (a2, true, ar "[C" .char [(vi g3), (vi g4), (vi g5)]) :: (a6, true, ar "[C" .char [(vi g7), (vi g8), (vi g9)]) :: (a88, true, oStringBuilder (vr a106) (vi 1) (vi (((0 : Int32) + g13) + g15)) (vi 0)) :: (a92, true, oString (vr a93) (vi 1)) :: (a93, true, ar "[B" .byte (lm gl95)) :: (a106, true, ar "[B" .byte (lm gl109)) :: (a111, true, oString (vr a112) (vi 1)) :: (a112, true, ar "[B" .byte (lm gl109)) :: (a27, false, oString (vr a28) (vi 0)) :: (a28, false, ar "" .byte []) :: (a26, true, oArrayList (vi 0) (vr (og1 Z))) :: (a18, true, oXmlElement (vr a26) (vr a19) (vr a21) (vr a23) (vi 1) .null (vr a25) (vr a88)) :: (a25, true, oArrayList (vi 0) (vr (og1 Z))) :: (a23, false, oString (vr a24) (vi 0)) :: (a24, false, ar "" .byte [(vi 120)]) :: (a21, false, oString (vr a22) (vi 0)) :: []) rfl rfl ?_
      refine W.front 19 (D' := (a21, false, oString (vr a22) (vi 0)) :: (a22, false, ar "" .byte [(vi 120)]) :: (a19, false, oString (vr a20) (vi 0)) :: (a20, false, ar "" .byte []) :: (a17, true, ar "[C" .char [(vi g7), (vi g8), (vi g9)]) :: (a2, true, ar "[C" .char [(vi g3), (vi g4), (vi g5)]) :: (a6, true, ar "[C" .char [(vi g7), (vi g8), (vi g9)]) :: (a88, true, oStringBuilder (vr a106) (vi 1) (vi (((0 : Int32) + g13) + g15)) (vi 0)) :: (a92, true, oString (vr a93) (vi 1)) :: (a93, true, ar "[B" .byte (lm gl95)) :: (a106, true, ar "[B" .byte (lm gl109)) :: (a111, true, oString (vr a112) (vi 1)) :: (a112, true, ar "[B" .byte (lm gl109)) :: (a27, false, oString (vr a28) (vi 0)) :: (a28, false, ar "" .byte []) :: (a26, true, oArrayList (vi 0) (vr (og1 Z))) :: (a18, true, oXmlElement (vr a26) (vr a19) (vr a21) (vr a23) (vi 1) .null (vr a25) (vr a88)) :: (a25, true, oArrayList (vi 0) (vr (og1 Z))) :: (a23, false, oString (vr a24) (vi 0)) :: (a24, false, ar "" .byte [(vi 120)]) :: []) rfl rfl ?_
      refine W.front 19 (D' := (a24, false, ar "" .byte [(vi 120)]) :: (a21, false, oString (vr a22) (vi 0)) :: (a22, false, ar "" .byte [(vi 120)]) :: (a19, false, oString (vr a20) (vi 0)) :: (a20, false, ar "" .byte []) :: (a17, true, ar "[C" .char [(vi g7), (vi g8), (vi g9)]) :: (a2, true, ar "[C" .char [(vi g3), (vi g4), (vi g5)]) :: (a6, true, ar "[C" .char [(vi g7), (vi g8), (vi g9)]) :: (a88, true, oStringBuilder (vr a106) (vi 1) (vi (((0 : Int32) + g13) + g15)) (vi 0)) :: (a92, true, oString (vr a93) (vi 1)) :: (a93, true, ar "[B" .byte (lm gl95)) :: (a106, true, ar "[B" .byte (lm gl109)) :: (a111, true, oString (vr a112) (vi 1)) :: (a112, true, ar "[B" .byte (lm gl109)) :: (a27, false, oString (vr a28) (vi 0)) :: (a28, false, ar "" .byte []) :: (a26, true, oArrayList (vi 0) (vr (og1 Z))) :: (a18, true, oXmlElement (vr a26) (vr a19) (vr a21) (vr a23) (vi 1) .null (vr a25) (vr a88)) :: (a25, true, oArrayList (vi 0) (vr (og1 Z))) :: (a23, false, oString (vr a24) (vi 0)) :: []) rfl rfl ?_
      refine W.front 19 (D' := (a23, false, oString (vr a24) (vi 0)) :: (a24, false, ar "" .byte [(vi 120)]) :: (a21, false, oString (vr a22) (vi 0)) :: (a22, false, ar "" .byte [(vi 120)]) :: (a19, false, oString (vr a20) (vi 0)) :: (a20, false, ar "" .byte []) :: (a17, true, ar "[C" .char [(vi g7), (vi g8), (vi g9)]) :: (a2, true, ar "[C" .char [(vi g3), (vi g4), (vi g5)]) :: (a6, true, ar "[C" .char [(vi g7), (vi g8), (vi g9)]) :: (a88, true, oStringBuilder (vr a106) (vi 1) (vi (((0 : Int32) + g13) + g15)) (vi 0)) :: (a92, true, oString (vr a93) (vi 1)) :: (a93, true, ar "[B" .byte (lm gl95)) :: (a106, true, ar "[B" .byte (lm gl109)) :: (a111, true, oString (vr a112) (vi 1)) :: (a112, true, ar "[B" .byte (lm gl109)) :: (a27, false, oString (vr a28) (vi 0)) :: (a28, false, ar "" .byte []) :: (a26, true, oArrayList (vi 0) (vr (og1 Z))) :: (a18, true, oXmlElement (vr a26) (vr a19) (vr a21) (vr a23) (vi 1) .null (vr a25) (vr a88)) :: (a25, true, oArrayList (vi 0) (vr (og1 Z))) :: []) rfl rfl ?_
      refine W.front 19 (D' := (a25, true, oArrayList (vi 0) (vr (og1 Z))) :: (a23, false, oString (vr a24) (vi 0)) :: (a24, false, ar "" .byte [(vi 120)]) :: (a21, false, oString (vr a22) (vi 0)) :: (a22, false, ar "" .byte [(vi 120)]) :: (a19, false, oString (vr a20) (vi 0)) :: (a20, false, ar "" .byte []) :: (a17, true, ar "[C" .char [(vi g7), (vi g8), (vi g9)]) :: (a2, true, ar "[C" .char [(vi g3), (vi g4), (vi g5)]) :: (a6, true, ar "[C" .char [(vi g7), (vi g8), (vi g9)]) :: (a88, true, oStringBuilder (vr a106) (vi 1) (vi (((0 : Int32) + g13) + g15)) (vi 0)) :: (a92, true, oString (vr a93) (vi 1)) :: (a93, true, ar "[B" .byte (lm gl95)) :: (a106, true, ar "[B" .byte (lm gl109)) :: (a111, true, oString (vr a112) (vi 1)) :: (a112, true, ar "[B" .byte (lm gl109)) :: (a27, false, oString (vr a28) (vi 0)) :: (a28, false, ar "" .byte []) :: (a26, true, oArrayList (vi 0) (vr (og1 Z))) :: (a18, true, oXmlElement (vr a26) (vr a19) (vr a21) (vr a23) (vi 1) .null (vr a25) (vr a88)) :: []) rfl rfl ?_
      refine W.front 19 (D' := (a18, true, oXmlElement (vr a26) (vr a19) (vr a21) (vr a23) (vi 1) .null (vr a25) (vr a88)) :: (a25, true, oArrayList (vi 0) (vr (og1 Z))) :: (a23, false, oString (vr a24) (vi 0)) :: (a24, false, ar "" .byte [(vi 120)]) :: (a21, false, oString (vr a22) (vi 0)) :: (a22, false, ar "" .byte [(vi 120)]) :: (a19, false, oString (vr a20) (vi 0)) :: (a20, false, ar "" .byte []) :: (a17, true, ar "[C" .char [(vi g7), (vi g8), (vi g9)]) :: (a2, true, ar "[C" .char [(vi g3), (vi g4), (vi g5)]) :: (a6, true, ar "[C" .char [(vi g7), (vi g8), (vi g9)]) :: (a88, true, oStringBuilder (vr a106) (vi 1) (vi (((0 : Int32) + g13) + g15)) (vi 0)) :: (a92, true, oString (vr a93) (vi 1)) :: (a93, true, ar "[B" .byte (lm gl95)) :: (a106, true, ar "[B" .byte (lm gl109)) :: (a111, true, oString (vr a112) (vi 1)) :: (a112, true, ar "[B" .byte (lm gl109)) :: (a27, false, oString (vr a28) (vi 0)) :: (a28, false, ar "" .byte []) :: (a26, true, oArrayList (vi 0) (vr (og1 Z))) :: []) rfl rfl ?_
      refine W.front 19 (D' := (a26, true, oArrayList (vi 0) (vr (og1 Z))) :: (a18, true, oXmlElement (vr a26) (vr a19) (vr a21) (vr a23) (vi 1) .null (vr a25) (vr a88)) :: (a25, true, oArrayList (vi 0) (vr (og1 Z))) :: (a23, false, oString (vr a24) (vi 0)) :: (a24, false, ar "" .byte [(vi 120)]) :: (a21, false, oString (vr a22) (vi 0)) :: (a22, false, ar "" .byte [(vi 120)]) :: (a19, false, oString (vr a20) (vi 0)) :: (a20, false, ar "" .byte []) :: (a17, true, ar "[C" .char [(vi g7), (vi g8), (vi g9)]) :: (a2, true, ar "[C" .char [(vi g3), (vi g4), (vi g5)]) :: (a6, true, ar "[C" .char [(vi g7), (vi g8), (vi g9)]) :: (a88, true, oStringBuilder (vr a106) (vi 1) (vi (((0 : Int32) + g13) + g15)) (vi 0)) :: (a92, true, oString (vr a93) (vi 1)) :: (a93, true, ar "[B" .byte (lm gl95)) :: (a106, true, ar "[B" .byte (lm gl109)) :: (a111, true, oString (vr a112) (vi 1)) :: (a112, true, ar "[B" .byte (lm gl109)) :: (a27, false, oString (vr a28) (vi 0)) :: (a28, false, ar "" .byte []) :: []) rfl rfl ?_
      refine W.front 19 (D' := (a28, false, ar "" .byte []) :: (a26, true, oArrayList (vi 0) (vr (og1 Z))) :: (a18, true, oXmlElement (vr a26) (vr a19) (vr a21) (vr a23) (vi 1) .null (vr a25) (vr a88)) :: (a25, true, oArrayList (vi 0) (vr (og1 Z))) :: (a23, false, oString (vr a24) (vi 0)) :: (a24, false, ar "" .byte [(vi 120)]) :: (a21, false, oString (vr a22) (vi 0)) :: (a22, false, ar "" .byte [(vi 120)]) :: (a19, false, oString (vr a20) (vi 0)) :: (a20, false, ar "" .byte []) :: (a17, true, ar "[C" .char [(vi g7), (vi g8), (vi g9)]) :: (a2, true, ar "[C" .char [(vi g3), (vi g4), (vi g5)]) :: (a6, true, ar "[C" .char [(vi g7), (vi g8), (vi g9)]) :: (a88, true, oStringBuilder (vr a106) (vi 1) (vi (((0 : Int32) + g13) + g15)) (vi 0)) :: (a92, true, oString (vr a93) (vi 1)) :: (a93, true, ar "[B" .byte (lm gl95)) :: (a106, true, ar "[B" .byte (lm gl109)) :: (a111, true, oString (vr a112) (vi 1)) :: (a112, true, ar "[B" .byte (lm gl109)) :: (a27, false, oString (vr a28) (vi 0)) :: []) rfl rfl ?_
      refine W.front 19 (D' := (a27, false, oString (vr a28) (vi 0)) :: (a28, false, ar "" .byte []) :: (a26, true, oArrayList (vi 0) (vr (og1 Z))) :: (a18, true, oXmlElement (vr a26) (vr a19) (vr a21) (vr a23) (vi 1) .null (vr a25) (vr a88)) :: (a25, true, oArrayList (vi 0) (vr (og1 Z))) :: (a23, false, oString (vr a24) (vi 0)) :: (a24, false, ar "" .byte [(vi 120)]) :: (a21, false, oString (vr a22) (vi 0)) :: (a22, false, ar "" .byte [(vi 120)]) :: (a19, false, oString (vr a20) (vi 0)) :: (a20, false, ar "" .byte []) :: (a17, true, ar "[C" .char [(vi g7), (vi g8), (vi g9)]) :: (a2, true, ar "[C" .char [(vi g3), (vi g4), (vi g5)]) :: (a6, true, ar "[C" .char [(vi g7), (vi g8), (vi g9)]) :: (a88, true, oStringBuilder (vr a106) (vi 1) (vi (((0 : Int32) + g13) + g15)) (vi 0)) :: (a92, true, oString (vr a93) (vi 1)) :: (a93, true, ar "[B" .byte (lm gl95)) :: (a106, true, ar "[B" .byte (lm gl109)) :: (a111, true, oString (vr a112) (vi 1)) :: (a112, true, ar "[B" .byte (lm gl109)) :: []) rfl rfl ?_
      have he116 : ((0 : Int32) + g13).toInt.toNat = g13.toInt.toNat := by have := q0; have := a_add (0 : Int32) g13; have := a_add g13 g15; have := a_add ((0 : Int32) + g13) g15; have := a_add g12 g13; have := q3; have := a_add g14 g15; have := q1; have := ashl_1 g13; have := ashr_1 g90; have := ashr_1 g107; have := ashl_1 (((0 : Int32) + g13) + g15); omega
      have hv117 := fun i hi => (hp110.1 i (he116 ▸ hi)).trans (hP4 i hi)
      have hv118 := hp110.2
      rw [he116] at hv118
      exact W.mono (by decide) (by decide) (K105 a106 g107 gl109 a111 a112 g107 gl109 hg107 hgl109 hg107 hgl109 (by have := a_add g13 g15; have := q1; have := ashl_1 (g13 + g15); have := q0; have := a_add (0 : Int32) g13; have := a_add ((0 : Int32) + g13) g15; have := a_add g12 g13; have := q3; have := a_add g14 g15; have := ashl_1 g13; have := ashr_1 g90; have := ashr_1 g107; have := ashl_1 (((0 : Int32) + g13) + g15); omega) hv117 hv118)
     ·
      have ih8 := f_eq h8
      have ih9 := t_gt h9
      show W _ _ _ _ _ _ _ _ _ _ _ _ 300 _ [(vr a113)]
      refine W.astore (ls' := #[iv z0, iv z1, iv z2, iv z3, iv z4, rv a2, rv a6, iv g12, iv g13, iv g14, iv g15, rv a17, rv a18, iv 1, rv a92, rv a113]) at_300 rfl rfl ?_
      refine W.front 1 (D' := (a113, true, oString (vr a114) (vi 1)) :: (a114, true, ar "[B" .byte (lm (cpl gl109 (0 : Int32).toInt.toNat (List.replicate ((((0 : Int32) + g13) + g15) <<< ((1 : Int32) &&& 31)).toInt.toNat (0 : Int32)) (0 : Int32).toInt.toNat ((((0 : Int32) + g13) + g15) <<< ((1 : Int32) &&& 31)).toInt.toNat))) :: (a106, true, ar "[B" .byte (lm gl109)) :: (a88, true, oStringBuilder (vr a106) (vi 1) (vi (((0 : Int32) + g13) + g15)) (vi 0)) :: (a27, false, oString (vr a28) (vi 0)) :: (a28, false, ar "" .byte []) :: (a26, true, oArrayList (vi 0) (vr (og1 Z))) :: (a18, true, oXmlElement (vr a26) (vr a19) (vr a21) (vr a23) (vi 1) .null (vr a25) (vr a88)) :: (a25, true, oArrayList (vi 0) (vr (og1 Z))) :: (a23, false, oString (vr a24) (vi 0)) :: (a24, false, ar "" .byte [(vi 120)]) :: (a21, false, oString (vr a22) (vi 0)) :: (a22, false, ar "" .byte [(vi 120)]) :: (a19, false, oString (vr a20) (vi 0)) :: (a20, false, ar "" .byte []) :: (a17, true, ar "[C" .char [(vi g7), (vi g8), (vi g9)]) :: (a2, true, ar "[C" .char [(vi g3), (vi g4), (vi g5)]) :: (a6, true, ar "[C" .char [(vi g7), (vi g8), (vi g9)]) :: (a92, true, oString (vr a93) (vi 1)) :: (a93, true, ar "[B" .byte (lm gl95)) :: []) rfl rfl ?_
      refine W.front 2 (D' := (a106, true, ar "[B" .byte (lm gl109)) :: (a113, true, oString (vr a114) (vi 1)) :: (a114, true, ar "[B" .byte (lm (cpl gl109 (0 : Int32).toInt.toNat (List.replicate ((((0 : Int32) + g13) + g15) <<< ((1 : Int32) &&& 31)).toInt.toNat (0 : Int32)) (0 : Int32).toInt.toNat ((((0 : Int32) + g13) + g15) <<< ((1 : Int32) &&& 31)).toInt.toNat))) :: (a88, true, oStringBuilder (vr a106) (vi 1) (vi (((0 : Int32) + g13) + g15)) (vi 0)) :: (a27, false, oString (vr a28) (vi 0)) :: (a28, false, ar "" .byte []) :: (a26, true, oArrayList (vi 0) (vr (og1 Z))) :: (a18, true, oXmlElement (vr a26) (vr a19) (vr a21) (vr a23) (vi 1) .null (vr a25) (vr a88)) :: (a25, true, oArrayList (vi 0) (vr (og1 Z))) :: (a23, false, oString (vr a24) (vi 0)) :: (a24, false, ar "" .byte [(vi 120)]) :: (a21, false, oString (vr a22) (vi 0)) :: (a22, false, ar "" .byte [(vi 120)]) :: (a19, false, oString (vr a20) (vi 0)) :: (a20, false, ar "" .byte []) :: (a17, true, ar "[C" .char [(vi g7), (vi g8), (vi g9)]) :: (a2, true, ar "[C" .char [(vi g3), (vi g4), (vi g5)]) :: (a6, true, ar "[C" .char [(vi g7), (vi g8), (vi g9)]) :: (a92, true, oString (vr a93) (vi 1)) :: (a93, true, ar "[B" .byte (lm gl95)) :: []) rfl rfl ?_
      refine W.front 19 (D' := (a93, true, ar "[B" .byte (lm gl95)) :: (a106, true, ar "[B" .byte (lm gl109)) :: (a113, true, oString (vr a114) (vi 1)) :: (a114, true, ar "[B" .byte (lm (cpl gl109 (0 : Int32).toInt.toNat (List.replicate ((((0 : Int32) + g13) + g15) <<< ((1 : Int32) &&& 31)).toInt.toNat (0 : Int32)) (0 : Int32).toInt.toNat ((((0 : Int32) + g13) + g15) <<< ((1 : Int32) &&& 31)).toInt.toNat))) :: (a88, true, oStringBuilder (vr a106) (vi 1) (vi (((0 : Int32) + g13) + g15)) (vi 0)) :: (a27, false, oString (vr a28) (vi 0)) :: (a28, false, ar "" .byte []) :: (a26, true, oArrayList (vi 0) (vr (og1 Z))) :: (a18, true, oXmlElement (vr a26) (vr a19) (vr a21) (vr a23) (vi 1) .null (vr a25) (vr a88)) :: (a25, true, oArrayList (vi 0) (vr (og1 Z))) :: (a23, false, oString (vr a24) (vi 0)) :: (a24, false, ar "" .byte [(vi 120)]) :: (a21, false, oString (vr a22) (vi 0)) :: (a22, false, ar "" .byte [(vi 120)]) :: (a19, false, oString (vr a20) (vi 0)) :: (a20, false, ar "" .byte []) :: (a17, true, ar "[C" .char [(vi g7), (vi g8), (vi g9)]) :: (a2, true, ar "[C" .char [(vi g3), (vi g4), (vi g5)]) :: (a6, true, ar "[C" .char [(vi g7), (vi g8), (vi g9)]) :: (a92, true, oString (vr a93) (vi 1)) :: []) rfl rfl ?_
      refine W.front 19 (D' := (a92, true, oString (vr a93) (vi 1)) :: (a93, true, ar "[B" .byte (lm gl95)) :: (a106, true, ar "[B" .byte (lm gl109)) :: (a113, true, oString (vr a114) (vi 1)) :: (a114, true, ar "[B" .byte (lm (cpl gl109 (0 : Int32).toInt.toNat (List.replicate ((((0 : Int32) + g13) + g15) <<< ((1 : Int32) &&& 31)).toInt.toNat (0 : Int32)) (0 : Int32).toInt.toNat ((((0 : Int32) + g13) + g15) <<< ((1 : Int32) &&& 31)).toInt.toNat))) :: (a88, true, oStringBuilder (vr a106) (vi 1) (vi (((0 : Int32) + g13) + g15)) (vi 0)) :: (a27, false, oString (vr a28) (vi 0)) :: (a28, false, ar "" .byte []) :: (a26, true, oArrayList (vi 0) (vr (og1 Z))) :: (a18, true, oXmlElement (vr a26) (vr a19) (vr a21) (vr a23) (vi 1) .null (vr a25) (vr a88)) :: (a25, true, oArrayList (vi 0) (vr (og1 Z))) :: (a23, false, oString (vr a24) (vi 0)) :: (a24, false, ar "" .byte [(vi 120)]) :: (a21, false, oString (vr a22) (vi 0)) :: (a22, false, ar "" .byte [(vi 120)]) :: (a19, false, oString (vr a20) (vi 0)) :: (a20, false, ar "" .byte []) :: (a17, true, ar "[C" .char [(vi g7), (vi g8), (vi g9)]) :: (a2, true, ar "[C" .char [(vi g3), (vi g4), (vi g5)]) :: (a6, true, ar "[C" .char [(vi g7), (vi g8), (vi g9)]) :: []) rfl rfl ?_
      refine W.front 5 (D' := (a88, true, oStringBuilder (vr a106) (vi 1) (vi (((0 : Int32) + g13) + g15)) (vi 0)) :: (a92, true, oString (vr a93) (vi 1)) :: (a93, true, ar "[B" .byte (lm gl95)) :: (a106, true, ar "[B" .byte (lm gl109)) :: (a113, true, oString (vr a114) (vi 1)) :: (a114, true, ar "[B" .byte (lm (cpl gl109 (0 : Int32).toInt.toNat (List.replicate ((((0 : Int32) + g13) + g15) <<< ((1 : Int32) &&& 31)).toInt.toNat (0 : Int32)) (0 : Int32).toInt.toNat ((((0 : Int32) + g13) + g15) <<< ((1 : Int32) &&& 31)).toInt.toNat))) :: (a27, false, oString (vr a28) (vi 0)) :: (a28, false, ar "" .byte []) :: (a26, true, oArrayList (vi 0) (vr (og1 Z))) :: (a18, true, oXmlElement (vr a26) (vr a19) (vr a21) (vr a23) (vi 1) .null (vr a25) (vr a88)) :: (a25, true, oArrayList (vi 0) (vr (og1 Z))) :: (a23, false, oString (vr a24) (vi 0)) :: (a24, false, ar "" .byte [(vi 120)]) :: (a21, false, oString (vr a22) (vi 0)) :: (a22, false, ar "" .byte [(vi 120)]) :: (a19, false, oString (vr a20) (vi 0)) :: (a20, false, ar "" .byte []) :: (a17, true, ar "[C" .char [(vi g7), (vi g8), (vi g9)]) :: (a2, true, ar "[C" .char [(vi g3), (vi g4), (vi g5)]) :: (a6, true, ar "[C" .char [(vi g7), (vi g8), (vi g9)]) :: []) rfl rfl ?_
      refine W.front 19 (D' := (a6, true, ar "[C" .char [(vi g7), (vi g8), (vi g9)]) :: (a88, true, oStringBuilder (vr a106) (vi 1) (vi (((0 : Int32) + g13) + g15)) (vi 0)) :: (a92, true, oString (vr a93) (vi 1)) :: (a93, true, ar "[B" .byte (lm gl95)) :: (a106, true, ar "[B" .byte (lm gl109)) :: (a113, true, oString (vr a114) (vi 1)) :: (a114, true, ar "[B" .byte (lm (cpl gl109 (0 : Int32).toInt.toNat (List.replicate ((((0 : Int32) + g13) + g15) <<< ((1 : Int32) &&& 31)).toInt.toNat (0 : Int32)) (0 : Int32).toInt.toNat ((((0 : Int32) + g13) + g15) <<< ((1 : Int32) &&& 31)).toInt.toNat))) :: (a27, false, oString (vr a28) (vi 0)) :: (a28, false, ar "" .byte []) :: (a26, true, oArrayList (vi 0) (vr (og1 Z))) :: (a18, true, oXmlElement (vr a26) (vr a19) (vr a21) (vr a23) (vi 1) .null (vr a25) (vr a88)) :: (a25, true, oArrayList (vi 0) (vr (og1 Z))) :: (a23, false, oString (vr a24) (vi 0)) :: (a24, false, ar "" .byte [(vi 120)]) :: (a21, false, oString (vr a22) (vi 0)) :: (a22, false, ar "" .byte [(vi 120)]) :: (a19, false, oString (vr a20) (vi 0)) :: (a20, false, ar "" .byte []) :: (a17, true, ar "[C" .char [(vi g7), (vi g8), (vi g9)]) :: (a2, true, ar "[C" .char [(vi g3), (vi g4), (vi g5)]) :: []) rfl rfl ?_
      refine W.front 19 (D' := (a2, true, ar "[C" .char [(vi g3), (vi g4), (vi g5)]) :: (a6, true, ar "[C" .char [(vi g7), (vi g8), (vi g9)]) :: (a88, true, oStringBuilder (vr a106) (vi 1) (vi (((0 : Int32) + g13) + g15)) (vi 0)) :: (a92, true, oString (vr a93) (vi 1)) :: (a93, true, ar "[B" .byte (lm gl95)) :: (a106, true, ar "[B" .byte (lm gl109)) :: (a113, true, oString (vr a114) (vi 1)) :: (a114, true, ar "[B" .byte (lm (cpl gl109 (0 : Int32).toInt.toNat (List.replicate ((((0 : Int32) + g13) + g15) <<< ((1 : Int32) &&& 31)).toInt.toNat (0 : Int32)) (0 : Int32).toInt.toNat ((((0 : Int32) + g13) + g15) <<< ((1 : Int32) &&& 31)).toInt.toNat))) :: (a27, false, oString (vr a28) (vi 0)) :: (a28, false, ar "" .byte []) :: (a26, true, oArrayList (vi 0) (vr (og1 Z))) :: (a18, true, oXmlElement (vr a26) (vr a19) (vr a21) (vr a23) (vi 1) .null (vr a25) (vr a88)) :: (a25, true, oArrayList (vi 0) (vr (og1 Z))) :: (a23, false, oString (vr a24) (vi 0)) :: (a24, false, ar "" .byte [(vi 120)]) :: (a21, false, oString (vr a22) (vi 0)) :: (a22, false, ar "" .byte [(vi 120)]) :: (a19, false, oString (vr a20) (vi 0)) :: (a20, false, ar "" .byte []) :: (a17, true, ar "[C" .char [(vi g7), (vi g8), (vi g9)]) :: []) rfl rfl ?_
      refine W.front 19 (D' := (a17, true, ar "[C" .char [(vi g7), (vi g8), (vi g9)]) :: (a2, true, ar "[C" .char [(vi g3), (vi g4), (vi g5)]) :: (a6, true, ar "[C" .char [(vi g7), (vi g8), (vi g9)]) :: (a88, true, oStringBuilder (vr a106) (vi 1) (vi (((0 : Int32) + g13) + g15)) (vi 0)) :: (a92, true, oString (vr a93) (vi 1)) :: (a93, true, ar "[B" .byte (lm gl95)) :: (a106, true, ar "[B" .byte (lm gl109)) :: (a113, true, oString (vr a114) (vi 1)) :: (a114, true, ar "[B" .byte (lm (cpl gl109 (0 : Int32).toInt.toNat (List.replicate ((((0 : Int32) + g13) + g15) <<< ((1 : Int32) &&& 31)).toInt.toNat (0 : Int32)) (0 : Int32).toInt.toNat ((((0 : Int32) + g13) + g15) <<< ((1 : Int32) &&& 31)).toInt.toNat))) :: (a27, false, oString (vr a28) (vi 0)) :: (a28, false, ar "" .byte []) :: (a26, true, oArrayList (vi 0) (vr (og1 Z))) :: (a18, true, oXmlElement (vr a26) (vr a19) (vr a21) (vr a23) (vi 1) .null (vr a25) (vr a88)) :: (a25, true, oArrayList (vi 0) (vr (og1 Z))) :: (a23, false, oString (vr a24) (vi 0)) :: (a24, false, ar "" .byte [(vi 120)]) :: (a21, false, oString (vr a22) (vi 0)) :: (a22, false, ar "" .byte [(vi 120)]) :: (a19, false, oString (vr a20) (vi 0)) :: (a20, false, ar "" .byte []) :: []) rfl rfl ?_
      refine W.front 19 (D' := (a20, false, ar "" .byte []) :: (a17, true, ar "[C" .char [(vi g7), (vi g8), (vi g9)]) :: (a2, true, ar "[C" .char [(vi g3), (vi g4), (vi g5)]) :: (a6, true, ar "[C" .char [(vi g7), (vi g8), (vi g9)]) :: (a88, true, oStringBuilder (vr a106) (vi 1) (vi (((0 : Int32) + g13) + g15)) (vi 0)) :: (a92, true, oString (vr a93) (vi 1)) :: (a93, true, ar "[B" .byte (lm gl95)) :: (a106, true, ar "[B" .byte (lm gl109)) :: (a113, true, oString (vr a114) (vi 1)) :: (a114, true, ar "[B" .byte (lm (cpl gl109 (0 : Int32).toInt.toNat (List.replicate ((((0 : Int32) + g13) + g15) <<< ((1 : Int32) &&& 31)).toInt.toNat (0 : Int32)) (0 : Int32).toInt.toNat ((((0 : Int32) + g13) + g15) <<< ((1 : Int32) &&& 31)).toInt.toNat))) :: (a27, false, oString (vr a28) (vi 0)) :: (a28, false, ar "" .byte []) :: (a26, true, oArrayList (vi 0) (vr (og1 Z))) :: (a18, true, oXmlElement (vr a26) (vr a19) (vr a21) (vr a23) (vi 1) .null (vr a25) (vr a88)) :: (a25, true, oArrayList (vi 0) (vr (og1 Z))) :: (a23, false, oString (vr a24) (vi 0)) :: (a24, false, ar "" .byte [(vi 120)]) :: (a21, false, oString (vr a22) (vi 0)) :: (a22, false, ar "" .byte [(vi 120)]) :: (a19, false, oString (vr a20) (vi 0)) :: []) rfl rfl ?_
      refine W.front 19 (D' := (a19, false, oString (vr a20) (vi 0)) :: (a20, false, ar "" .byte []) :: (a17, true, ar "[C" .char [(vi g7), (vi g8), (vi g9)]) :: (a2, true, ar "[C" .char [(vi g3), (vi g4), (vi g5)]) :: (a6, true, ar "[C" .char [(vi g7), (vi g8), (vi g9)]) :: (a88, true, oStringBuilder (vr a106) (vi 1) (vi (((0 : Int32) + g13) + g15)) (vi 0)) :: (a92, true, oString (vr a93) (vi 1)) :: (a93, true, ar "[B" .byte (lm gl95)) :: (a106, true, ar "[B" .byte (lm gl109)) :: (a113, true, oString (vr a114) (vi 1)) :: (a114, true, ar "[B" .byte (lm (cpl gl109 (0 : Int32).toInt.toNat (List.replicate ((((0 : Int32) + g13) + g15) <<< ((1 : Int32) &&& 31)).toInt.toNat (0 : Int32)) (0 : Int32).toInt.toNat ((((0 : Int32) + g13) + g15) <<< ((1 : Int32) &&& 31)).toInt.toNat))) :: (a27, false, oString (vr a28) (vi 0)) :: (a28, false, ar "" .byte []) :: (a26, true, oArrayList (vi 0) (vr (og1 Z))) :: (a18, true, oXmlElement (vr a26) (vr a19) (vr a21) (vr a23) (vi 1) .null (vr a25) (vr a88)) :: (a25, true, oArrayList (vi 0) (vr (og1 Z))) :: (a23, false, oString (vr a24) (vi 0)) :: (a24, false, ar "" .byte [(vi 120)]) :: (a21, false, oString (vr a22) (vi 0)) :: (a22, false, ar "" .byte [(vi 120)]) :: []) rfl rfl ?_
      refine W.front 19 (D' := (a22, false, ar "" .byte [(vi 120)]) :: (a19, false, oString (vr a20) (vi 0)) :: (a20, false, ar "" .byte []) :: (a17, true, ar "[C" .char [(vi g7), (vi g8), (vi g9)]) :: (a2, true, ar "[C" .char [(vi g3), (vi g4), (vi g5)]) :: (a6, true, ar "[C" .char [(vi g7), (vi g8), (vi g9)]) :: (a88, true, oStringBuilder (vr a106) (vi 1) (vi (((0 : Int32) + g13) + g15)) (vi 0)) :: (a92, true, oString (vr a93) (vi 1)) :: (a93, true, ar "[B" .byte (lm gl95)) :: (a106, true, ar "[B" .byte (lm gl109)) :: (a113, true, oString (vr a114) (vi 1)) :: (a114, true, ar "[B" .byte (lm (cpl gl109 (0 : Int32).toInt.toNat (List.replicate ((((0 : Int32) + g13) + g15) <<< ((1 : Int32) &&& 31)).toInt.toNat (0 : Int32)) (0 : Int32).toInt.toNat ((((0 : Int32) + g13) + g15) <<< ((1 : Int32) &&& 31)).toInt.toNat))) :: (a27, false, oString (vr a28) (vi 0)) :: (a28, false, ar "" .byte []) :: (a26, true, oArrayList (vi 0) (vr (og1 Z))) :: (a18, true, oXmlElement (vr a26) (vr a19) (vr a21) (vr a23) (vi 1) .null (vr a25) (vr a88)) :: (a25, true, oArrayList (vi 0) (vr (og1 Z))) :: (a23, false, oString (vr a24) (vi 0)) :: (a24, false, ar "" .byte [(vi 120)]) :: (a21, false, oString (vr a22) (vi 0)) :: []) rfl rfl ?_
      refine W.front 19 (D' := (a21, false, oString (vr a22) (vi 0)) :: (a22, false, ar "" .byte [(vi 120)]) :: (a19, false, oString (vr a20) (vi 0)) :: (a20, false, ar "" .byte []) :: (a17, true, ar "[C" .char [(vi g7), (vi g8), (vi g9)]) :: (a2, true, ar "[C" .char [(vi g3), (vi g4), (vi g5)]) :: (a6, true, ar "[C" .char [(vi g7), (vi g8), (vi g9)]) :: (a88, true, oStringBuilder (vr a106) (vi 1) (vi (((0 : Int32) + g13) + g15)) (vi 0)) :: (a92, true, oString (vr a93) (vi 1)) :: (a93, true, ar "[B" .byte (lm gl95)) :: (a106, true, ar "[B" .byte (lm gl109)) :: (a113, true, oString (vr a114) (vi 1)) :: (a114, true, ar "[B" .byte (lm (cpl gl109 (0 : Int32).toInt.toNat (List.replicate ((((0 : Int32) + g13) + g15) <<< ((1 : Int32) &&& 31)).toInt.toNat (0 : Int32)) (0 : Int32).toInt.toNat ((((0 : Int32) + g13) + g15) <<< ((1 : Int32) &&& 31)).toInt.toNat))) :: (a27, false, oString (vr a28) (vi 0)) :: (a28, false, ar "" .byte []) :: (a26, true, oArrayList (vi 0) (vr (og1 Z))) :: (a18, true, oXmlElement (vr a26) (vr a19) (vr a21) (vr a23) (vi 1) .null (vr a25) (vr a88)) :: (a25, true, oArrayList (vi 0) (vr (og1 Z))) :: (a23, false, oString (vr a24) (vi 0)) :: (a24, false, ar "" .byte [(vi 120)]) :: []) rfl rfl ?_
      refine W.front 19 (D' := (a24, false, ar "" .byte [(vi 120)]) :: (a21, false, oString (vr a22) (vi 0)) :: (a22, false, ar "" .byte [(vi 120)]) :: (a19, false, oString (vr a20) (vi 0)) :: (a20, false, ar "" .byte []) :: (a17, true, ar "[C" .char [(vi g7), (vi g8), (vi g9)]) :: (a2, true, ar "[C" .char [(vi g3), (vi g4), (vi g5)]) :: (a6, true, ar "[C" .char [(vi g7), (vi g8), (vi g9)]) :: (a88, true, oStringBuilder (vr a106) (vi 1) (vi (((0 : Int32) + g13) + g15)) (vi 0)) :: (a92, true, oString (vr a93) (vi 1)) :: (a93, true, ar "[B" .byte (lm gl95)) :: (a106, true, ar "[B" .byte (lm gl109)) :: (a113, true, oString (vr a114) (vi 1)) :: (a114, true, ar "[B" .byte (lm (cpl gl109 (0 : Int32).toInt.toNat (List.replicate ((((0 : Int32) + g13) + g15) <<< ((1 : Int32) &&& 31)).toInt.toNat (0 : Int32)) (0 : Int32).toInt.toNat ((((0 : Int32) + g13) + g15) <<< ((1 : Int32) &&& 31)).toInt.toNat))) :: (a27, false, oString (vr a28) (vi 0)) :: (a28, false, ar "" .byte []) :: (a26, true, oArrayList (vi 0) (vr (og1 Z))) :: (a18, true, oXmlElement (vr a26) (vr a19) (vr a21) (vr a23) (vi 1) .null (vr a25) (vr a88)) :: (a25, true, oArrayList (vi 0) (vr (og1 Z))) :: (a23, false, oString (vr a24) (vi 0)) :: []) rfl rfl ?_
      refine W.front 19 (D' := (a23, false, oString (vr a24) (vi 0)) :: (a24, false, ar "" .byte [(vi 120)]) :: (a21, false, oString (vr a22) (vi 0)) :: (a22, false, ar "" .byte [(vi 120)]) :: (a19, false, oString (vr a20) (vi 0)) :: (a20, false, ar "" .byte []) :: (a17, true, ar "[C" .char [(vi g7), (vi g8), (vi g9)]) :: (a2, true, ar "[C" .char [(vi g3), (vi g4), (vi g5)]) :: (a6, true, ar "[C" .char [(vi g7), (vi g8), (vi g9)]) :: (a88, true, oStringBuilder (vr a106) (vi 1) (vi (((0 : Int32) + g13) + g15)) (vi 0)) :: (a92, true, oString (vr a93) (vi 1)) :: (a93, true, ar "[B" .byte (lm gl95)) :: (a106, true, ar "[B" .byte (lm gl109)) :: (a113, true, oString (vr a114) (vi 1)) :: (a114, true, ar "[B" .byte (lm (cpl gl109 (0 : Int32).toInt.toNat (List.replicate ((((0 : Int32) + g13) + g15) <<< ((1 : Int32) &&& 31)).toInt.toNat (0 : Int32)) (0 : Int32).toInt.toNat ((((0 : Int32) + g13) + g15) <<< ((1 : Int32) &&& 31)).toInt.toNat))) :: (a27, false, oString (vr a28) (vi 0)) :: (a28, false, ar "" .byte []) :: (a26, true, oArrayList (vi 0) (vr (og1 Z))) :: (a18, true, oXmlElement (vr a26) (vr a19) (vr a21) (vr a23) (vi 1) .null (vr a25) (vr a88)) :: (a25, true, oArrayList (vi 0) (vr (og1 Z))) :: []) rfl rfl ?_
      refine W.front 19 (D' := (a25, true, oArrayList (vi 0) (vr (og1 Z))) :: (a23, false, oString (vr a24) (vi 0)) :: (a24, false, ar "" .byte [(vi 120)]) :: (a21, false, oString (vr a22) (vi 0)) :: (a22, false, ar "" .byte [(vi 120)]) :: (a19, false, oString (vr a20) (vi 0)) :: (a20, false, ar "" .byte []) :: (a17, true, ar "[C" .char [(vi g7), (vi g8), (vi g9)]) :: (a2, true, ar "[C" .char [(vi g3), (vi g4), (vi g5)]) :: (a6, true, ar "[C" .char [(vi g7), (vi g8), (vi g9)]) :: (a88, true, oStringBuilder (vr a106) (vi 1) (vi (((0 : Int32) + g13) + g15)) (vi 0)) :: (a92, true, oString (vr a93) (vi 1)) :: (a93, true, ar "[B" .byte (lm gl95)) :: (a106, true, ar "[B" .byte (lm gl109)) :: (a113, true, oString (vr a114) (vi 1)) :: (a114, true, ar "[B" .byte (lm (cpl gl109 (0 : Int32).toInt.toNat (List.replicate ((((0 : Int32) + g13) + g15) <<< ((1 : Int32) &&& 31)).toInt.toNat (0 : Int32)) (0 : Int32).toInt.toNat ((((0 : Int32) + g13) + g15) <<< ((1 : Int32) &&& 31)).toInt.toNat))) :: (a27, false, oString (vr a28) (vi 0)) :: (a28, false, ar "" .byte []) :: (a26, true, oArrayList (vi 0) (vr (og1 Z))) :: (a18, true, oXmlElement (vr a26) (vr a19) (vr a21) (vr a23) (vi 1) .null (vr a25) (vr a88)) :: []) rfl rfl ?_
      refine W.front 19 (D' := (a18, true, oXmlElement (vr a26) (vr a19) (vr a21) (vr a23) (vi 1) .null (vr a25) (vr a88)) :: (a25, true, oArrayList (vi 0) (vr (og1 Z))) :: (a23, false, oString (vr a24) (vi 0)) :: (a24, false, ar "" .byte [(vi 120)]) :: (a21, false, oString (vr a22) (vi 0)) :: (a22, false, ar "" .byte [(vi 120)]) :: (a19, false, oString (vr a20) (vi 0)) :: (a20, false, ar "" .byte []) :: (a17, true, ar "[C" .char [(vi g7), (vi g8), (vi g9)]) :: (a2, true, ar "[C" .char [(vi g3), (vi g4), (vi g5)]) :: (a6, true, ar "[C" .char [(vi g7), (vi g8), (vi g9)]) :: (a88, true, oStringBuilder (vr a106) (vi 1) (vi (((0 : Int32) + g13) + g15)) (vi 0)) :: (a92, true, oString (vr a93) (vi 1)) :: (a93, true, ar "[B" .byte (lm gl95)) :: (a106, true, ar "[B" .byte (lm gl109)) :: (a113, true, oString (vr a114) (vi 1)) :: (a114, true, ar "[B" .byte (lm (cpl gl109 (0 : Int32).toInt.toNat (List.replicate ((((0 : Int32) + g13) + g15) <<< ((1 : Int32) &&& 31)).toInt.toNat (0 : Int32)) (0 : Int32).toInt.toNat ((((0 : Int32) + g13) + g15) <<< ((1 : Int32) &&& 31)).toInt.toNat))) :: (a27, false, oString (vr a28) (vi 0)) :: (a28, false, ar "" .byte []) :: (a26, true, oArrayList (vi 0) (vr (og1 Z))) :: []) rfl rfl ?_
      refine W.front 19 (D' := (a26, true, oArrayList (vi 0) (vr (og1 Z))) :: (a18, true, oXmlElement (vr a26) (vr a19) (vr a21) (vr a23) (vi 1) .null (vr a25) (vr a88)) :: (a25, true, oArrayList (vi 0) (vr (og1 Z))) :: (a23, false, oString (vr a24) (vi 0)) :: (a24, false, ar "" .byte [(vi 120)]) :: (a21, false, oString (vr a22) (vi 0)) :: (a22, false, ar "" .byte [(vi 120)]) :: (a19, false, oString (vr a20) (vi 0)) :: (a20, false, ar "" .byte []) :: (a17, true, ar "[C" .char [(vi g7), (vi g8), (vi g9)]) :: (a2, true, ar "[C" .char [(vi g3), (vi g4), (vi g5)]) :: (a6, true, ar "[C" .char [(vi g7), (vi g8), (vi g9)]) :: (a88, true, oStringBuilder (vr a106) (vi 1) (vi (((0 : Int32) + g13) + g15)) (vi 0)) :: (a92, true, oString (vr a93) (vi 1)) :: (a93, true, ar "[B" .byte (lm gl95)) :: (a106, true, ar "[B" .byte (lm gl109)) :: (a113, true, oString (vr a114) (vi 1)) :: (a114, true, ar "[B" .byte (lm (cpl gl109 (0 : Int32).toInt.toNat (List.replicate ((((0 : Int32) + g13) + g15) <<< ((1 : Int32) &&& 31)).toInt.toNat (0 : Int32)) (0 : Int32).toInt.toNat ((((0 : Int32) + g13) + g15) <<< ((1 : Int32) &&& 31)).toInt.toNat))) :: (a27, false, oString (vr a28) (vi 0)) :: (a28, false, ar "" .byte []) :: []) rfl rfl ?_
      refine W.front 19 (D' := (a28, false, ar "" .byte []) :: (a26, true, oArrayList (vi 0) (vr (og1 Z))) :: (a18, true, oXmlElement (vr a26) (vr a19) (vr a21) (vr a23) (vi 1) .null (vr a25) (vr a88)) :: (a25, true, oArrayList (vi 0) (vr (og1 Z))) :: (a23, false, oString (vr a24) (vi 0)) :: (a24, false, ar "" .byte [(vi 120)]) :: (a21, false, oString (vr a22) (vi 0)) :: (a22, false, ar "" .byte [(vi 120)]) :: (a19, false, oString (vr a20) (vi 0)) :: (a20, false, ar "" .byte []) :: (a17, true, ar "[C" .char [(vi g7), (vi g8), (vi g9)]) :: (a2, true, ar "[C" .char [(vi g3), (vi g4), (vi g5)]) :: (a6, true, ar "[C" .char [(vi g7), (vi g8), (vi g9)]) :: (a88, true, oStringBuilder (vr a106) (vi 1) (vi (((0 : Int32) + g13) + g15)) (vi 0)) :: (a92, true, oString (vr a93) (vi 1)) :: (a93, true, ar "[B" .byte (lm gl95)) :: (a106, true, ar "[B" .byte (lm gl109)) :: (a113, true, oString (vr a114) (vi 1)) :: (a114, true, ar "[B" .byte (lm (cpl gl109 (0 : Int32).toInt.toNat (List.replicate ((((0 : Int32) + g13) + g15) <<< ((1 : Int32) &&& 31)).toInt.toNat (0 : Int32)) (0 : Int32).toInt.toNat ((((0 : Int32) + g13) + g15) <<< ((1 : Int32) &&& 31)).toInt.toNat))) :: (a27, false, oString (vr a28) (vi 0)) :: []) rfl rfl ?_
      refine W.front 19 (D' := (a27, false, oString (vr a28) (vi 0)) :: (a28, false, ar "" .byte []) :: (a26, true, oArrayList (vi 0) (vr (og1 Z))) :: (a18, true, oXmlElement (vr a26) (vr a19) (vr a21) (vr a23) (vi 1) .null (vr a25) (vr a88)) :: (a25, true, oArrayList (vi 0) (vr (og1 Z))) :: (a23, false, oString (vr a24) (vi 0)) :: (a24, false, ar "" .byte [(vi 120)]) :: (a21, false, oString (vr a22) (vi 0)) :: (a22, false, ar "" .byte [(vi 120)]) :: (a19, false, oString (vr a20) (vi 0)) :: (a20, false, ar "" .byte []) :: (a17, true, ar "[C" .char [(vi g7), (vi g8), (vi g9)]) :: (a2, true, ar "[C" .char [(vi g3), (vi g4), (vi g5)]) :: (a6, true, ar "[C" .char [(vi g7), (vi g8), (vi g9)]) :: (a88, true, oStringBuilder (vr a106) (vi 1) (vi (((0 : Int32) + g13) + g15)) (vi 0)) :: (a92, true, oString (vr a93) (vi 1)) :: (a93, true, ar "[B" .byte (lm gl95)) :: (a106, true, ar "[B" .byte (lm gl109)) :: (a113, true, oString (vr a114) (vi 1)) :: (a114, true, ar "[B" .byte (lm (cpl gl109 (0 : Int32).toInt.toNat (List.replicate ((((0 : Int32) + g13) + g15) <<< ((1 : Int32) &&& 31)).toInt.toNat (0 : Int32)) (0 : Int32).toInt.toNat ((((0 : Int32) + g13) + g15) <<< ((1 : Int32) &&& 31)).toInt.toNat))) :: []) rfl rfl ?_
      have he119 : ((0 : Int32) + g13).toInt.toNat = g13.toInt.toNat := by have := q0; have := a_add (0 : Int32) g13; have := a_add g13 g15; have := a_add ((0 : Int32) + g13) g15; have := a_add g12 g13; have := q3; have := a_add g14 g15; have := q1; have := ashl_1 g13; have := ashr_1 g90; have := ashr_1 g107; have := ashl_1 (((0 : Int32) + g13) + g15); omega
      have hv120 := fun i hi => (hp110.1 i (he119 ▸ hi)).trans (hP4 i hi)
      have hv121 := hp110.2
      rw [he119] at hv121
      exact W.mono (by decide) (by decide) (K105 a106 g107 gl109 a113 a114 ((((0 : Int32) + g13) + g15) <<< ((1 : Int32) &&& 31)) (cpl gl109 (0 : Int32).toInt.toNat (List.replicate ((((0 : Int32) + g13) + g15) <<< ((1 : Int32) &&& 31)).toInt.toNat (0 : Int32)) (0 : Int32).toInt.toNat ((((0 : Int32) + g13) + g15) <<< ((1 : Int32) &&& 31)).toInt.toNat) hg107 hgl109 (by have := q0; have := a_add (0 : Int32) g13; have := a_add ((0 : Int32) + g13) g15; have := q1; have := ashl_1 (((0 : Int32) + g13) + g15); have := a_add g12 g13; have := q3; have := a_add g14 g15; have := ashl_1 g13; have := ashr_1 g90; have := ashr_1 g107; omega) hl115 (by have := q0; have := a_add (0 : Int32) g13; have := a_add ((0 : Int32) + g13) g15; have := q1; have := ashl_1 (((0 : Int32) + g13) + g15); have := a_add g13 g15; have := ashl_1 (g13 + g15); have := a_add g12 g13; have := q3; have := a_add g14 g15; have := ashl_1 g13; have := ashr_1 g90; have := ashr_1 g107; omega) (fun i hi => (dc_cplI (by have := q0; have := a_add (0 : Int32) g13; have := a_add ((0 : Int32) + g13) g15; have := q1; have := ashl_1 (((0 : Int32) + g13) + g15); have := a_add g13 g15; have := ashr_1 g107; have := a_add g12 g13; have := q3; have := a_add g14 g15; have := ashl_1 g13; have := ashr_1 g90; omega) (by have := hgl109; have := q0; have := a_add (0 : Int32) g13; have := a_add ((0 : Int32) + g13) g15; have := q1; have := ashl_1 (((0 : Int32) + g13) + g15); have := a_add g13 g15; have := ashr_1 g107; have := a_add g12 g13; have := q3; have := a_add g14 g15; have := ashl_1 g13; have := ashr_1 g90; omega) (by have := len_rep (z := ((((0 : Int32) + g13) + g15) <<< ((1 : Int32) &&& 31))) (by have := q0; have := a_add (0 : Int32) g13; have := a_add ((0 : Int32) + g13) g15; have := q1; have := ashl_1 (((0 : Int32) + g13) + g15); have := a_add g13 g15; have := ashr_1 g107; have := a_add g12 g13; have := q3; have := a_add g14 g15; have := ashl_1 g13; have := ashr_1 g90; omega); have := q0; have := a_add (0 : Int32) g13; have := a_add ((0 : Int32) + g13) g15; have := q1; have := ashl_1 (((0 : Int32) + g13) + g15); have := a_add g13 g15; have := ashr_1 g107; have := a_add g12 g13; have := q3; have := a_add g14 g15; have := ashl_1 g13; have := ashr_1 g90; omega)).trans (hv120 i hi)) (fun i hi => (dc_cplI (by have := q0; have := a_add (0 : Int32) g13; have := a_add ((0 : Int32) + g13) g15; have := q1; have := ashl_1 (((0 : Int32) + g13) + g15); have := a_add g13 g15; have := ashr_1 g107; have := a_add g12 g13; have := q3; have := a_add g14 g15; have := ashl_1 g13; have := ashr_1 g90; omega) (by have := hgl109; have := q0; have := a_add (0 : Int32) g13; have := a_add ((0 : Int32) + g13) g15; have := q1; have := ashl_1 (((0 : Int32) + g13) + g15); have := a_add g13 g15; have := ashr_1 g107; have := a_add g12 g13; have := q3; have := a_add g14 g15; have := ashl_1 g13; have := ashr_1 g90; omega) (by have := len_rep (z := ((((0 : Int32) + g13) + g15) <<< ((1 : Int32) &&& 31))) (by have := q0; have := a_add (0 : Int32) g13; have := a_add ((0 : Int32) + g13) g15; have := q1; have := ashl_1 (((0 : Int32) + g13) + g15); have := a_add g13 g15; have := ashr_1 g107; have := a_add g12 g13; have := q3; have := a_add g14 g15; have := ashl_1 g13; have := ashr_1 g90; omega); have := q0; have := a_add (0 : Int32) g13; have := a_add ((0 : Int32) + g13) g15; have := q1; have := ashl_1 (((0 : Int32) + g13) + g15); have := a_add g13 g15; have := ashr_1 g107; have := a_add g12 g13; have := q3; have := a_add g14 g15; have := ashl_1 g13; have := ashr_1 g90; omega)).trans (hv121 i hi)))
    refine W.aload 12 at_160 rfl rfl ?_
    refine W.aload 11 at_162 rfl rfl ?_
    refine W.iload at_164 rfl ?_
    refine W.iload at_166 rfl ?_
    refine W.front 3 (D' := (a18, true, oXmlElement (vr a26) (vr a19) (vr a21) (vr a23) (vi 1) .null (vr a25) .null) :: (a27, false, oString (vr a28) (vi 0)) :: (a28, false, ar "" .byte []) :: (a26, true, oArrayList (vi 0) (vr (og1 Z))) :: (a25, true, oArrayList (vi 0) (vr (og1 Z))) :: (a23, false, oString (vr a24) (vi 0)) :: (a24, false, ar "" .byte [(vi 120)]) :: (a21, false, oString (vr a22) (vi 0)) :: (a22, false, ar "" .byte [(vi 120)]) :: (a19, false, oString (vr a20) (vi 0)) :: (a20, false, ar "" .byte []) :: (a17, true, ar "[C" .char [(vi g3), (vi g4), (vi g5)]) :: (a2, true, ar "[C" .char [(vi g3), (vi g4), (vi g5)]) :: (a6, true, ar "[C" .char [(vi g7), (vi g8), (vi g9)]) :: []) rfl rfl ?_
    refine W.callV (as := [(vr a17), (vi g12), (vi g13)]) 0 [] at_168 (wq hw 81 rfl) (wq hw 82 rfl) (wq hw 84 rfl) (wq hw 84 rfl) (wq hw 83 rfl) (wq hw 4 rfl) (wq hw 85 rfl) (Hp.exa m0) (c8_appendText hw hs (hx1 := (by have := a_add g12 g13; have := q3; omega)) (hx2 := (by have := a_add g12 g13; have := q3; omega)) (hr0 := by have := a_add g12 g13; have := q3; omega) (l1 := [g3, g4, g5]) (hl_l1 := (len_q (k := 3) rfl (by decide))) (hb_l1 := (bl3 hg3 hg4 hg5)) (mp2 := m10)) (by decide) pd__CII_V rfl rfl rfl rfl (by decide) (fun v D' h => ?_)
    rcases h with ⟨a122, a123, g124, gl126, hg124, hf125, hgl126, hp127, rfl, rfl⟩ | ⟨a128, a129, g130, gl132, hg130, hf131, hgl132, hp133, rfl, rfl⟩
    ·
     show W _ _ _ _ _ _ _ _ _ _ _ _ 171 _ []
     refine W.aload 12 at_171 rfl rfl ?_
     refine W.callV (as := []) 0 [] at_173 (wq hw 60 rfl) (wq hw 61 rfl) (wq hw 63 rfl) (wq hw 63 rfl) (wq hw 62 rfl) (wq hw 4 rfl) (wq hw 64 rfl) (Hp.exa m2) (c39_text hw hs (hx1 := (by have := q0; have := a_add (0 : Int32) g13; have := a_add g12 g13; have := q3; omega)) (hx2 := (by have := q0; have := a_add (0 : Int32) g13; have := a_add g12 g13; have := q3; omega)) (hr0 := by have := q0; have := a_add (0 : Int32) g13; have := a_add g12 g13; have := q3; omega) (l1 := gl126) (hl_l1 := hgl126) (mp1 := m2) (mp7 := m1) (mp11 := m0)) (by decide) pd__Ljava_lang_String_ rfl rfl rfl rfl (by decide) (fun v D' h => ?_)
     rcases h with ⟨a134, a135, h10, rfl, rfl⟩ | ⟨a136, a137, h11, h12, hl138, rfl, rfl⟩
     ·
      have ih10 := t_eq h10
      show W _ _ _ _ _ _ _ _ _ _ _ _ 176 _ [(vr a134)]
      refine W.astore (ls' := #[iv z0, iv z1, iv z2, iv z3, iv z4, rv a2, rv a6, iv g12, iv g13, iv g14, iv g15, rv a17, rv a18, iv 1, rv a134, uu]) at_176 rfl rfl ?_
      refine W.front 1 (D' := (a134, true, oString (vr a135) (vi 0)) :: (a135, true, ar "[B" .byte (lm gl126)) :: (a123, true, ar "[B" .byte (lm gl126)) :: (a122, true, oStringBuilder (vr a123) (vi 0) (vi ((0 : Int32) + g13)) (vi 0)) :: (a18, true, oXmlElement (vr a26) (vr a19) (vr a21) (vr a23) (vi 1) .null (vr a25) (vr a122)) :: (a27, false, oString (vr a28) (vi 0)) :: (a28, false, ar "" .byte []) :: (a26, true, oArrayList (vi 0) (vr (og1 Z))) :: (a25, true, oArrayList (vi 0) (vr (og1 Z))) :: (a23, false, oString (vr a24) (vi 0)) :: (a24, false, ar "" .byte [(vi 120)]) :: (a21, false, oString (vr a22) (vi 0)) :: (a22, false, ar "" .byte [(vi 120)]) :: (a19, false, oString (vr a20) (vi 0)) :: (a20, false, ar "" .byte []) :: (a17, true, ar "[C" .char [(vi g3), (vi g4), (vi g5)]) :: (a2, true, ar "[C" .char [(vi g3), (vi g4), (vi g5)]) :: (a6, true, ar "[C" .char [(vi g7), (vi g8), (vi g9)]) :: []) rfl rfl ?_
      refine W.front 2 (D' := (a123, true, ar "[B" .byte (lm gl126)) :: (a134, true, oString (vr a135) (vi 0)) :: (a135, true, ar "[B" .byte (lm gl126)) :: (a122, true, oStringBuilder (vr a123) (vi 0) (vi ((0 : Int32) + g13)) (vi 0)) :: (a18, true, oXmlElement (vr a26) (vr a19) (vr a21) (vr a23) (vi 1) .null (vr a25) (vr a122)) :: (a27, false, oString (vr a28) (vi 0)) :: (a28, false, ar "" .byte []) :: (a26, true, oArrayList (vi 0) (vr (og1 Z))) :: (a25, true, oArrayList (vi 0) (vr (og1 Z))) :: (a23, false, oString (vr a24) (vi 0)) :: (a24, false, ar "" .byte [(vi 120)]) :: (a21, false, oString (vr a22) (vi 0)) :: (a22, false, ar "" .byte [(vi 120)]) :: (a19, false, oString (vr a20) (vi 0)) :: (a20, false, ar "" .byte []) :: (a17, true, ar "[C" .char [(vi g3), (vi g4), (vi g5)]) :: (a2, true, ar "[C" .char [(vi g3), (vi g4), (vi g5)]) :: (a6, true, ar "[C" .char [(vi g7), (vi g8), (vi g9)]) :: []) rfl rfl ?_
      refine W.front 3 (D' := (a122, true, oStringBuilder (vr a123) (vi 0) (vi ((0 : Int32) + g13)) (vi 0)) :: (a123, true, ar "[B" .byte (lm gl126)) :: (a134, true, oString (vr a135) (vi 0)) :: (a135, true, ar "[B" .byte (lm gl126)) :: (a18, true, oXmlElement (vr a26) (vr a19) (vr a21) (vr a23) (vi 1) .null (vr a25) (vr a122)) :: (a27, false, oString (vr a28) (vi 0)) :: (a28, false, ar "" .byte []) :: (a26, true, oArrayList (vi 0) (vr (og1 Z))) :: (a25, true, oArrayList (vi 0) (vr (og1 Z))) :: (a23, false, oString (vr a24) (vi 0)) :: (a24, false, ar "" .byte [(vi 120)]) :: (a21, false, oString (vr a22) (vi 0)) :: (a22, false, ar "" .byte [(vi 120)]) :: (a19, false, oString (vr a20) (vi 0)) :: (a20, false, ar "" .byte []) :: (a17, true, ar "[C" .char [(vi g3), (vi g4), (vi g5)]) :: (a2, true, ar "[C" .char [(vi g3), (vi g4), (vi g5)]) :: (a6, true, ar "[C" .char [(vi g7), (vi g8), (vi g9)]) :: []) rfl rfl ?_
      refine W.front 17 (D' := (a6, true, ar "[C" .char [(vi g7), (vi g8), (vi g9)]) :: (a122, true, oStringBuilder (vr a123) (vi 0) (vi ((0 : Int32) + g13)) (vi 0)) :: (a123, true, ar "[B" .byte (lm gl126)) :: (a134, true, oString (vr a135) (vi 0)) :: (a135, true, ar "[B" .byte (lm gl126)) :: (a18, true, oXmlElement (vr a26) (vr a19) (vr a21) (vr a23) (vi 1) .null (vr a25) (vr a122)) :: (a27, false, oString (vr a28) (vi 0)) :: (a28, false, ar "" .byte []) :: (a26, true, oArrayList (vi 0) (vr (og1 Z))) :: (a25, true, oArrayList (vi 0) (vr (og1 Z))) :: (a23, false, oString (vr a24) (vi 0)) :: (a24, false, ar "" .byte [(vi 120)]) :: (a21, false, oString (vr a22) (vi 0)) :: (a22, false, ar "" .byte [(vi 120)]) :: (a19, false, oString (vr a20) (vi 0)) :: (a20, false, ar "" .byte []) :: (a17, true, ar "[C" .char [(vi g3), (vi g4), (vi g5)]) :: (a2, true, ar "[C" .char [(vi g3), (vi g4), (vi g5)]) :: []) rfl rfl ?_
      refine W.front 17 (D' := (a2, true, ar "[C" .char [(vi g3), (vi g4), (vi g5)]) :: (a6, true, ar "[C" .char [(vi g7), (vi g8), (vi g9)]) :: (a122, true, oStringBuilder (vr a123) (vi 0) (vi ((0 : Int32) + g13)) (vi 0)) :: (a123, true, ar "[B" .byte (lm gl126)) :: (a134, true, oString (vr a135) (vi 0)) :: (a135, true, ar "[B" .byte (lm gl126)) :: (a18, true, oXmlElement (vr a26) (vr a19) (vr a21) (vr a23) (vi 1) .null (vr a25) (vr a122)) :: (a27, false, oString (vr a28) (vi 0)) :: (a28, false, ar "" .byte []) :: (a26, true, oArrayList (vi 0) (vr (og1 Z))) :: (a25, true, oArrayList (vi 0) (vr (og1 Z))) :: (a23, false, oString (vr a24) (vi 0)) :: (a24, false, ar "" .byte [(vi 120)]) :: (a21, false, oString (vr a22) (vi 0)) :: (a22, false, ar "" .byte [(vi 120)]) :: (a19, false, oString (vr a20) (vi 0)) :: (a20, false, ar "" .byte []) :: (a17, true, ar "[C" .char [(vi g3), (vi g4), (vi g5)]) :: []) rfl rfl ?_
      refine W.front 17 (D' := (a17, true, ar "[C" .char [(vi g3), (vi g4), (vi g5)]) :: (a2, true, ar "[C" .char [(vi g3), (vi g4), (vi g5)]) :: (a6, true, ar "[C" .char [(vi g7), (vi g8), (vi g9)]) :: (a122, true, oStringBuilder (vr a123) (vi 0) (vi ((0 : Int32) + g13)) (vi 0)) :: (a123, true, ar "[B" .byte (lm gl126)) :: (a134, true, oString (vr a135) (vi 0)) :: (a135, true, ar "[B" .byte (lm gl126)) :: (a18, true, oXmlElement (vr a26) (vr a19) (vr a21) (vr a23) (vi 1) .null (vr a25) (vr a122)) :: (a27, false, oString (vr a28) (vi 0)) :: (a28, false, ar "" .byte []) :: (a26, true, oArrayList (vi 0) (vr (og1 Z))) :: (a25, true, oArrayList (vi 0) (vr (og1 Z))) :: (a23, false, oString (vr a24) (vi 0)) :: (a24, false, ar "" .byte [(vi 120)]) :: (a21, false, oString (vr a22) (vi 0)) :: (a22, false, ar "" .byte [(vi 120)]) :: (a19, false, oString (vr a20) (vi 0)) :: (a20, false, ar "" .byte []) :: []) rfl rfl ?_
      refine W.front 17 (D' := (a20, false, ar "" .byte []) :: (a17, true, ar "[C" .char [(vi g3), (vi g4), (vi g5)]) :: (a2, true, ar "[C" .char [(vi g3), (vi g4), (vi g5)]) :: (a6, true, ar "[C" .char [(vi g7), (vi g8), (vi g9)]) :: (a122, true, oStringBuilder (vr a123) (vi 0) (vi ((0 : Int32) + g13)) (vi 0)) :: (a123, true, ar "[B" .byte (lm gl126)) :: (a134, true, oString (vr a135) (vi 0)) :: (a135, true, ar "[B" .byte (lm gl126)) :: (a18, true, oXmlElement (vr a26) (vr a19) (vr a21) (vr a23) (vi 1) .null (vr a25) (vr a122)) :: (a27, false, oString (vr a28) (vi 0)) :: (a28, false, ar "" .byte []) :: (a26, true, oArrayList (vi 0) (vr (og1 Z))) :: (a25, true, oArrayList (vi 0) (vr (og1 Z))) :: (a23, false, oString (vr a24) (vi 0)) :: (a24, false, ar "" .byte [(vi 120)]) :: (a21, false, oString (vr a22) (vi 0)) :: (a22, false, ar "" .byte [(vi 120)]) :: (a19, false, oString (vr a20) (vi 0)) :: []) rfl rfl ?_
      refine W.front 17 (D' := (a19, false, oString (vr a20) (vi 0)) :: (a20, false, ar "" .byte []) :: (a17, true, ar "[C" .char [(vi g3), (vi g4), (vi g5)]) :: (a2, true, ar "[C" .char [(vi g3), (vi g4), (vi g5)]) :: (a6, true, ar "[C" .char [(vi g7), (vi g8), (vi g9)]) :: (a122, true, oStringBuilder (vr a123) (vi 0) (vi ((0 : Int32) + g13)) (vi 0)) :: (a123, true, ar "[B" .byte (lm gl126)) :: (a134, true, oString (vr a135) (vi 0)) :: (a135, true, ar "[B" .byte (lm gl126)) :: (a18, true, oXmlElement (vr a26) (vr a19) (vr a21) (vr a23) (vi 1) .null (vr a25) (vr a122)) :: (a27, false, oString (vr a28) (vi 0)) :: (a28, false, ar "" .byte []) :: (a26, true, oArrayList (vi 0) (vr (og1 Z))) :: (a25, true, oArrayList (vi 0) (vr (og1 Z))) :: (a23, false, oString (vr a24) (vi 0)) :: (a24, false, ar "" .byte [(vi 120)]) :: (a21, false, oString (vr a22) (vi 0)) :: (a22, false, ar "" .byte [(vi 120)]) :: []) rfl rfl ?_
      refine W.front 17 (D' := (a22, false, ar "" .byte [(vi 120)]) :: (a19, false, oString (vr a20) (vi 0)) :: (a20, false, ar "" .byte []) :: (a17, true, ar "[C" .char [(vi g3), (vi g4), (vi g5)]) :: (a2, true, ar "[C" .char [(vi g3), (vi g4), (vi g5)]) :: (a6, true, ar "[C" .char [(vi g7), (vi g8), (vi g9)]) :: (a122, true, oStringBuilder (vr a123) (vi 0) (vi ((0 : Int32) + g13)) (vi 0)) :: (a123, true, ar "[B" .byte (lm gl126)) :: (a134, true, oString (vr a135) (vi 0)) :: (a135, true, ar "[B" .byte (lm gl126)) :: (a18, true, oXmlElement (vr a26) (vr a19) (vr a21) (vr a23) (vi 1) .null (vr a25) (vr a122)) :: (a27, false, oString (vr a28) (vi 0)) :: (a28, false, ar "" .byte []) :: (a26, true, oArrayList (vi 0) (vr (og1 Z))) :: (a25, true, oArrayList (vi 0) (vr (og1 Z))) :: (a23, false, oString (vr a24) (vi 0)) :: (a24, false, ar "" .byte [(vi 120)]) :: (a21, false, oString (vr a22) (vi 0)) :: []) rfl rfl ?_
      refine W.front 17 (D' := (a21, false, oString (vr a22) (vi 0)) :: (a22, false, ar "" .byte [(vi 120)]) :: (a19, false, oString (vr a20) (vi 0)) :: (a20, false, ar "" .byte []) :: (a17, true, ar "[C" .char [(vi g3), (vi g4), (vi g5)]) :: (a2, true, ar "[C" .char [(vi g3), (vi g4), (vi g5)]) :: (a6, true, ar "[C" .char [(vi g7), (vi g8), (vi g9)]) :: (a122, true, oStringBuilder (vr a123) (vi 0) (vi ((0 : Int32) + g13)) (vi 0)) :: (a123, true, ar "[B" .byte (lm gl126)) :: (a134, true, oString (vr a135) (vi 0)) :: (a135, true, ar "[B" .byte (lm gl126)) :: (a18, true, oXmlElement (vr a26) (vr a19) (vr a21) (vr a23) (vi 1) .null (vr a25) (vr a122)) :: (a27, false, oString (vr a28) (vi 0)) :: (a28, false, ar "" .byte []) :: (a26, true, oArrayList (vi 0) (vr (og1 Z))) :: (a25, true, oArrayList (vi 0) (vr (og1 Z))) :: (a23, false, oString (vr a24) (vi 0)) :: (a24, false, ar "" .byte [(vi 120)]) :: []) rfl rfl ?_
      refine W.front 17 (D' := (a24, false, ar "" .byte [(vi 120)]) :: (a21, false, oString (vr a22) (vi 0)) :: (a22, false, ar "" .byte [(vi 120)]) :: (a19, false, oString (vr a20) (vi 0)) :: (a20, false, ar "" .byte []) :: (a17, true, ar "[C" .char [(vi g3), (vi g4), (vi g5)]) :: (a2, true, ar "[C" .char [(vi g3), (vi g4), (vi g5)]) :: (a6, true, ar "[C" .char [(vi g7), (vi g8), (vi g9)]) :: (a122, true, oStringBuilder (vr a123) (vi 0) (vi ((0 : Int32) + g13)) (vi 0)) :: (a123, true, ar "[B" .byte (lm gl126)) :: (a134, true, oString (vr a135) (vi 0)) :: (a135, true, ar "[B" .byte (lm gl126)) :: (a18, true, oXmlElement (vr a26) (vr a19) (vr a21) (vr a23) (vi 1) .null (vr a25) (vr a122)) :: (a27, false, oString (vr a28) (vi 0)) :: (a28, false, ar "" .byte []) :: (a26, true, oArrayList (vi 0) (vr (og1 Z))) :: (a25, true, oArrayList (vi 0) (vr (og1 Z))) :: (a23, false, oString (vr a24) (vi 0)) :: []) rfl rfl ?_
      refine W.front 17 (D' := (a23, false, oString (vr a24) (vi 0)) :: (a24, false, ar "" .byte [(vi 120)]) :: (a21, false, oString (vr a22) (vi 0)) :: (a22, false, ar "" .byte [(vi 120)]) :: (a19, false, oString (vr a20) (vi 0)) :: (a20, false, ar "" .byte []) :: (a17, true, ar "[C" .char [(vi g3), (vi g4), (vi g5)]) :: (a2, true, ar "[C" .char [(vi g3), (vi g4), (vi g5)]) :: (a6, true, ar "[C" .char [(vi g7), (vi g8), (vi g9)]) :: (a122, true, oStringBuilder (vr a123) (vi 0) (vi ((0 : Int32) + g13)) (vi 0)) :: (a123, true, ar "[B" .byte (lm gl126)) :: (a134, true, oString (vr a135) (vi 0)) :: (a135, true, ar "[B" .byte (lm gl126)) :: (a18, true, oXmlElement (vr a26) (vr a19) (vr a21) (vr a23) (vi 1) .null (vr a25) (vr a122)) :: (a27, false, oString (vr a28) (vi 0)) :: (a28, false, ar "" .byte []) :: (a26, true, oArrayList (vi 0) (vr (og1 Z))) :: (a25, true, oArrayList (vi 0) (vr (og1 Z))) :: []) rfl rfl ?_
      refine W.front 17 (D' := (a25, true, oArrayList (vi 0) (vr (og1 Z))) :: (a23, false, oString (vr a24) (vi 0)) :: (a24, false, ar "" .byte [(vi 120)]) :: (a21, false, oString (vr a22) (vi 0)) :: (a22, false, ar "" .byte [(vi 120)]) :: (a19, false, oString (vr a20) (vi 0)) :: (a20, false, ar "" .byte []) :: (a17, true, ar "[C" .char [(vi g3), (vi g4), (vi g5)]) :: (a2, true, ar "[C" .char [(vi g3), (vi g4), (vi g5)]) :: (a6, true, ar "[C" .char [(vi g7), (vi g8), (vi g9)]) :: (a122, true, oStringBuilder (vr a123) (vi 0) (vi ((0 : Int32) + g13)) (vi 0)) :: (a123, true, ar "[B" .byte (lm gl126)) :: (a134, true, oString (vr a135) (vi 0)) :: (a135, true, ar "[B" .byte (lm gl126)) :: (a18, true, oXmlElement (vr a26) (vr a19) (vr a21) (vr a23) (vi 1) .null (vr a25) (vr a122)) :: (a27, false, oString (vr a28) (vi 0)) :: (a28, false, ar "" .byte []) :: (a26, true, oArrayList (vi 0) (vr (og1 Z))) :: []) rfl rfl ?_
      refine W.front 14 (D' := (a18, true, oXmlElement (vr a26) (vr a19) (vr a21) (vr a23) (vi 1) .null (vr a25) (vr a122)) :: (a25, true, oArrayList (vi 0) (vr (og1 Z))) :: (a23, false, oString (vr a24) (vi 0)) :: (a24, false, ar "" .byte [(vi 120)]) :: (a21, false, oString (vr a22) (vi 0)) :: (a22, false, ar "" .byte [(vi 120)]) :: (a19, false, oString (vr a20) (vi 0)) :: (a20, false, ar "" .byte []) :: (a17, true, ar "[C" .char [(vi g3), (vi g4), (vi g5)]) :: (a2, true, ar "[C" .char [(vi g3), (vi g4), (vi g5)]) :: (a6, true, ar "[C" .char [(vi g7), (vi g8), (vi g9)]) :: (a122, true, oStringBuilder (vr a123) (vi 0) (vi ((0 : Int32) + g13)) (vi 0)) :: (a123, true, ar "[B" .byte (lm gl126)) :: (a134, true, oString (vr a135) (vi 0)) :: (a135, true, ar "[B" .byte (lm gl126)) :: (a27, false, oString (vr a28) (vi 0)) :: (a28, false, ar "" .byte []) :: (a26, true, oArrayList (vi 0) (vr (og1 Z))) :: []) rfl rfl ?_
      refine W.front 17 (D' := (a26, true, oArrayList (vi 0) (vr (og1 Z))) :: (a18, true, oXmlElement (vr a26) (vr a19) (vr a21) (vr a23) (vi 1) .null (vr a25) (vr a122)) :: (a25, true, oArrayList (vi 0) (vr (og1 Z))) :: (a23, false, oString (vr a24) (vi 0)) :: (a24, false, ar "" .byte [(vi 120)]) :: (a21, false, oString (vr a22) (vi 0)) :: (a22, false, ar "" .byte [(vi 120)]) :: (a19, false, oString (vr a20) (vi 0)) :: (a20, false, ar "" .byte []) :: (a17, true, ar "[C" .char [(vi g3), (vi g4), (vi g5)]) :: (a2, true, ar "[C" .char [(vi g3), (vi g4), (vi g5)]) :: (a6, true, ar "[C" .char [(vi g7), (vi g8), (vi g9)]) :: (a122, true, oStringBuilder (vr a123) (vi 0) (vi ((0 : Int32) + g13)) (vi 0)) :: (a123, true, ar "[B" .byte (lm gl126)) :: (a134, true, oString (vr a135) (vi 0)) :: (a135, true, ar "[B" .byte (lm gl126)) :: (a27, false, oString (vr a28) (vi 0)) :: (a28, false, ar "" .byte []) :: []) rfl rfl ?_
      refine W.front 17 (D' := (a28, false, ar "" .byte []) :: (a26, true, oArrayList (vi 0) (vr (og1 Z))) :: (a18, true, oXmlElement (vr a26) (vr a19) (vr a21) (vr a23) (vi 1) .null (vr a25) (vr a122)) :: (a25, true, oArrayList (vi 0) (vr (og1 Z))) :: (a23, false, oString (vr a24) (vi 0)) :: (a24, false, ar "" .byte [(vi 120)]) :: (a21, false, oString (vr a22) (vi 0)) :: (a22, false, ar "" .byte [(vi 120)]) :: (a19, false, oString (vr a20) (vi 0)) :: (a20, false, ar "" .byte []) :: (a17, true, ar "[C" .char [(vi g3), (vi g4), (vi g5)]) :: (a2, true, ar "[C" .char [(vi g3), (vi g4), (vi g5)]) :: (a6, true, ar "[C" .char [(vi g7), (vi g8), (vi g9)]) :: (a122, true, oStringBuilder (vr a123) (vi 0) (vi ((0 : Int32) + g13)) (vi 0)) :: (a123, true, ar "[B" .byte (lm gl126)) :: (a134, true, oString (vr a135) (vi 0)) :: (a135, true, ar "[B" .byte (lm gl126)) :: (a27, false, oString (vr a28) (vi 0)) :: []) rfl rfl ?_
      refine W.front 17 (D' := (a27, false, oString (vr a28) (vi 0)) :: (a28, false, ar "" .byte []) :: (a26, true, oArrayList (vi 0) (vr (og1 Z))) :: (a18, true, oXmlElement (vr a26) (vr a19) (vr a21) (vr a23) (vi 1) .null (vr a25) (vr a122)) :: (a25, true, oArrayList (vi 0) (vr (og1 Z))) :: (a23, false, oString (vr a24) (vi 0)) :: (a24, false, ar "" .byte [(vi 120)]) :: (a21, false, oString (vr a22) (vi 0)) :: (a22, false, ar "" .byte [(vi 120)]) :: (a19, false, oString (vr a20) (vi 0)) :: (a20, false, ar "" .byte []) :: (a17, true, ar "[C" .char [(vi g3), (vi g4), (vi g5)]) :: (a2, true, ar "[C" .char [(vi g3), (vi g4), (vi g5)]) :: (a6, true, ar "[C" .char [(vi g7), (vi g8), (vi g9)]) :: (a122, true, oStringBuilder (vr a123) (vi 0) (vi ((0 : Int32) + g13)) (vi 0)) :: (a123, true, ar "[B" .byte (lm gl126)) :: (a134, true, oString (vr a135) (vi 0)) :: (a135, true, ar "[B" .byte (lm gl126)) :: []) rfl rfl ?_
      have hv139 := app_in0 hp127
      exact W.mono (by decide) (by decide) (K38 a122 a123 g124 gl126 a134 a135 g124 gl126 hg124 hgl126 hg124 hgl126 (by have := a_add g12 g13; have := q3; have := q0; have := a_add (0 : Int32) g13; omega) (by have := q0; have := a_add (0 : Int32) g13; have := a_add g12 g13; have := q3; omega) hv139 hv139)
     ·
      have ih11 := f_eq h11
      have ih12 := t_gt h12
      show W _ _ _ _ _ _ _ _ _ _ _ _ 176 _ [(vr a136)]
      refine W.astore (ls' := #[iv z0, iv z1, iv z2, iv z3, iv z4, rv a2, rv a6, iv g12, iv g13, iv g14, iv g15, rv a17, rv a18, iv 1, rv a136, uu]) at_176 rfl rfl ?_
      refine W.front 1 (D' := (a136, true, oString (vr a137) (vi 0)) :: (a137, true, ar "[B" .byte (lm (cpl gl126 (0 : Int32).toInt.toNat (List.replicate ((0 : Int32) + g13).toInt.toNat (0 : Int32)) (0 : Int32).toInt.toNat ((0 : Int32) + g13).toInt.toNat))) :: (a123, true, ar "[B" .byte (lm gl126)) :: (a122, true, oStringBuilder (vr a123) (vi 0) (vi ((0 : Int32) + g13)) (vi 0)) :: (a18, true, oXmlElement (vr a26) (vr a19) (vr a21) (vr a23) (vi 1) .null (vr a25) (vr a122)) :: (a27, false, oString (vr a28) (vi 0)) :: (a28, false, ar "" .byte []) :: (a26, true, oArrayList (vi 0) (vr (og1 Z))) :: (a25, true, oArrayList (vi 0) (vr (og1 Z))) :: (a23, false, oString (vr a24) (vi 0)) :: (a24, false, ar "" .byte [(vi 120)]) :: (a21, false, oString (vr a22) (vi 0)) :: (a22, false, ar "" .byte [(vi 120)]) :: (a19, false, oString (vr a20) (vi 0)) :: (a20, false, ar "" .byte []) :: (a17, true, ar "[C" .char [(vi g3), (vi g4), (vi g5)]) :: (a2, true, ar "[C" .char [(vi g3), (vi g4), (vi g5)]) :: (a6, true, ar "[C" .char [(vi g7), (vi g8), (vi g9)]) :: []) rfl rfl ?_
      refine W.front 2 (D' := (a123, true, ar "[B" .byte (lm gl126)) :: (a136, true, oString (vr a137) (vi 0)) :: (a137, true, ar "[B" .byte (lm (cpl gl126 (0 : Int32).toInt.toNat (List.replicate ((0 : Int32) + g13).toInt.toNat (0 : Int32)) (0 : Int32).toInt.toNat ((0 : Int32) + g13).toInt.toNat))) :: (a122, true, oStringBuilder (vr a123) (vi 0) (vi ((0 : Int32) + g13)) (vi 0)) :: (a18, true, oXmlElement (vr a26) (vr a19) (vr a21) (vr a23) (vi 1) .null (vr a25) (vr a122)) :: (a27, false, oString (vr a28) (vi 0)) :: (a28, false, ar "" .byte []) :: (a26, true, oArrayList (vi 0) (vr (og1 Z))) :: (a25, true, oArrayList (vi 0) (vr (og1 Z))) :: (a23, false, oString (vr a24) (vi 0)) :: (a24, false, ar "" .byte [(vi 120)]) :: (a21, false, oString (vr a22) (vi 0)) :: (a22, false, ar "" .byte [(vi 120)]) :: (a19, false, oString (vr a20) (vi 0)) :: (a20, false, ar "" .byte []) :: (a17, true, ar "[C" .char [(vi g3), (vi g4), (vi g5)]) :: (a2, true, ar "[C" .char [(vi g3), (vi g4), (vi g5)]) :: (a6, true, ar "[C" .char [(vi g7), (vi g8), (vi g9)]) :: []) rfl rfl ?_
      refine W.front 3 (D' := (a122, true, oStringBuilder (vr a123) (vi 0) (vi ((0 : Int32) + g13)) (vi 0)) :: (a123, true, ar "[B" .byte (lm gl126)) :: (a136, true, oString (vr a137) (vi 0)) :: (a137, true, ar "[B" .byte (lm (cpl gl126 (0 : Int32).toInt.toNat (List.replicate ((0 : Int32) + g13).toInt.toNat (0 : Int32)) (0 : Int32).toInt.toNat ((0 : Int32) + g13).toInt.toNat))) :: (a18, true, oXmlElement (vr a26) (vr a19) (vr a21) (vr a23) (vi 1) .null (vr a25) (vr a122)) :: (a27, false, oString (vr a28) (vi 0)) :: (a28, false, ar "" .byte []) :: (a26, true, oArrayList (vi 0) (vr (og1 Z))) :: (a25, true, oArrayList (vi 0) (vr (og1 Z))) :: (a23, false, oString (vr a24) (vi 0)) :: (a24, false, ar "" .byte [(vi 120)]) :: (a21, false, oString (vr a22) (vi 0)) :: (a22, false, ar "" .byte [(vi 120)]) :: (a19, false, oString (vr a20) (vi 0)) :: (a20, false, ar "" .byte []) :: (a17, true, ar "[C" .char [(vi g3), (vi g4), (vi g5)]) :: (a2, true, ar "[C" .char [(vi g3), (vi g4), (vi g5)]) :: (a6, true, ar "[C" .char [(vi g7), (vi g8), (vi g9)]) :: []) rfl rfl ?_
      refine W.front 17 (D' := (a6, true, ar "[C" .char [(vi g7), (vi g8), (vi g9)]) :: (a122, true, oStringBuilder (vr a123) (vi 0) (vi ((0 : Int32) + g13)) (vi 0)) :: (a123, true, ar "[B" .byte (lm gl126)) :: (a136, true, oString (vr a137) (vi 0)) :: (a137, true, ar "[B" .byte (lm (cpl gl126 (0 : Int32).toInt.toNat (List.replicate ((0 : Int32) + g13).toInt.toNat (0 : Int32)) (0 : Int32).toInt.toNat ((0 : Int32) + g13).toInt.toNat))) :: (a18, true, oXmlElement (vr a26) (vr a19) (vr a21) (vr a23) (vi 1) .null (vr a25) (vr a122)) :: (a27, false, oString (vr a28) (vi 0)) :: (a28, false, ar "" .byte []) :: (a26, true, oArrayList (vi 0) (vr (og1 Z))) :: (a25, true, oArrayList (vi 0) (vr (og1 Z))) :: (a23, false, oString (vr a24) (vi 0)) :: (a24, false, ar "" .byte [(vi 120)]) :: (a21, false, oString (vr a22) (vi 0)) :: (a22, false, ar "" .byte [(vi 120)]) :: (a19, false, oString (vr a20) (vi 0)) :: (a20, false, ar "" .byte []) :: (a17, true, ar "[C" .char [(vi g3), (vi g4), (vi g5)]) :: (a2, true, ar "[C" .char [(vi g3), (vi g4), (vi g5)]) :: []) rfl rfl ?_
      refine W.front 17 (D' := (a2, true, ar "[C" .char [(vi g3), (vi g4), (vi g5)]) :: (a6, true, ar "[C" .char [(vi g7), (vi g8), (vi g9)]) :: (a122, true, oStringBuilder (vr a123) (vi 0) (vi ((0 : Int32) + g13)) (vi 0)) :: (a123, true, ar "[B" .byte (lm gl126)) :: (a136, true, oString (vr a137) (vi 0)) :: (a137, true, ar "[B" .byte (lm (cpl gl126 (0 : Int32).toInt.toNat (List.replicate ((0 : Int32) + g13).toInt.toNat (0 : Int32)) (0 : Int32).toInt.toNat ((0 : Int32) + g13).toInt.toNat))) :: (a18, true, oXmlElement (vr a26) (vr a19) (vr a21) (vr a23) (vi 1) .null (vr a25) (vr a122)) :: (a27, false, oString (vr a28) (vi 0)) :: (a28, false, ar "" .byte []) :: (a26, true, oArrayList (vi 0) (vr (og1 Z))) :: (a25, true, oArrayList (vi 0) (vr (og1 Z))) :: (a23, false, oString (vr a24) (vi 0)) :: (a24, false, ar "" .byte [(vi 120)]) :: (a21, false, oString (vr a22) (vi 0)) :: (a22, false, ar "" .byte [(vi 120)]) :: (a19, false, oString (vr a20) (vi 0)) :: (a20, false, ar "" .byte []) :: (a17, true, ar "[C" .char [(vi g3), (vi g4), (vi g5)]) :: []) rfl rfl ?_
      refine W.front 17 (D' := (a17, true, ar "[C" .char [(vi g3), (vi g4), (vi g5)]) :: (a2, true, ar "[C" .char [(vi g3), (vi g4), (vi g5)]) :: (a6, true, ar "[C" .char [(vi g7), (vi g8), (vi g9)]) :: (a122, true, oStringBuilder (vr a123) (vi 0) (vi ((0 : Int32) + g13)) (vi 0)) :: (a123, true, ar "[B" .byte (lm gl126)) :: (a136, true, oString (vr a137) (vi 0)) :: (a137, true, ar "[B" .byte (lm (cpl gl126 (0 : Int32).toInt.toNat (List.replicate ((0 : Int32) + g13).toInt.toNat (0 : Int32)) (0 : Int32).toInt.toNat ((0 : Int32) + g13).toInt.toNat))) :: (a18, true, oXmlElement (vr a26) (vr a19) (vr a21) (vr a23) (vi 1) .null (vr a25) (vr a122)) :: (a27, false, oString (vr a28) (vi 0)) :: (a28, false, ar "" .byte []) :: (a26, true, oArrayList (vi 0) (vr (og1 Z))) :: (a25, true, oArrayList (vi 0) (vr (og1 Z))) :: (a23, false, oString (vr a24) (vi 0)) :: (a24, false, ar "" .byte [(vi 120)]) :: (a21, false, oString (vr a22) (vi 0)) :: (a22, false, ar "" .byte [(vi 120)]) :: (a19, false, oString (vr a20) (vi 0)) :: (a20, false, ar "" .byte []) :: []) rfl rfl ?_
      refine W.front 17 (D' := (a20, false, ar "" .byte []) :: (a17, true, ar "[C" .char [(vi g3), (vi g4), (vi g5)]) :: (a2, true, ar "[C" .char [(vi g3), (vi g4), (vi g5)]) :: (a6, true, ar "[C" .char [(vi g7), (vi g8), (vi g9)]) :: (a122, true, oStringBuilder (vr a123) (vi 0) (vi ((0 : Int32) + g13)) (vi 0)) :: (a123, true, ar "[B" .byte (lm gl126)) :: (a136, true, oString (vr a137) (vi 0)) :: (a137, true, ar "[B" .byte (lm (cpl gl126 (0 : Int32).toInt.toNat (List.replicate ((0 : Int32) + g13).toInt.toNat (0 : Int32)) (0 : Int32).toInt.toNat ((0 : Int32) + g13).toInt.toNat))) :: (a18, true, oXmlElement (vr a26) (vr a19) (vr a21) (vr a23) (vi 1) .null (vr a25) (vr a122)) :: (a27, false, oString (vr a28) (vi 0)) :: (a28, false, ar "" .byte []) :: (a26, true, oArrayList (vi 0) (vr (og1 Z))) :: (a25, true, oArrayList (vi 0) (vr (og1 Z))) :: (a23, false, oString (vr a24) (vi 0)) :: (a24, false, ar "" .byte [(vi 120)]) :: (a21, false, oString (vr a22) (vi 0)) :: (a22, false, ar "" .byte [(vi 120)]) :: (a19, false, oString (vr a20) (vi 0)) :: []) rfl rfl ?_
      refine W.front 17 (D' := (a19, false, oString (vr a20) (vi 0)) :: (a20, false, ar "" .byte []) :: (a17, true, ar "[C" .char [(vi g3), (vi g4), (vi g5)]) :: (a2, true, ar "[C" .char [(vi g3), (vi g4), (vi g5)]) :: (a6, true, ar "[C" .char [(vi g7), (vi g8), (vi g9)]) :: (a122, true, oStringBuilder (vr a123) (vi 0) (vi ((0 : Int32) + g13)) (vi 0)) :: (a123, true, ar "[B" .byte (lm gl126)) :: (a136, true, oString (vr a137) (vi 0)) :: (a137, true, ar "[B" .byte (lm (cpl gl126 (0 : Int32).toInt.toNat (List.replicate ((0 : Int32) + g13).toInt.toNat (0 : Int32)) (0 : Int32).toInt.toNat ((0 : Int32) + g13).toInt.toNat))) :: (a18, true, oXmlElement (vr a26) (vr a19) (vr a21) (vr a23) (vi 1) .null (vr a25) (vr a122)) :: (a27, false, oString (vr a28) (vi 0)) :: (a28, false, ar "" .byte []) :: (a26, true, oArrayList (vi 0) (vr (og1 Z))) :: (a25, true, oArrayList (vi 0) (vr (og1 Z))) :: (a23, false, oString (vr a24) (vi 0)) :: (a24, false, ar "" .byte [(vi 120)]) :: (a21, false, oString (vr a22) (vi 0)) :: (a22, false, ar "" .byte [(vi 120)]) :: []) rfl rfl ?_
      refine W.front 17 (D' := (a22, false, ar "" .byte [(vi 120)]) :: (a19, false, oString (vr a20) (vi 0)) :: (a20, false, ar "" .byte []) :: (a17, true, ar "[C" .char [(vi g3), (vi g4), (vi g5)]) :: (a2, true, ar "[C" .char [(vi g3), (vi g4), (vi g5)]) :: (a6, true, ar "[C" .char [(vi g7), (vi g8), (vi g9)]) :: (a122, true, oStringBuilder (vr a123) (vi 0) (vi ((0 : Int32) + g13)) (vi 0)) :: (a123, true, ar "[B" .byte (lm gl126)) :: (a136, true, oString (vr a137) (vi 0)) :: (a137, true, ar "[B" .byte (lm (cpl gl126 (0 : Int32).toInt.toNat (List.replicate ((0 : Int32) + g13).toInt.toNat (0 : Int32)) (0 : Int32).toInt.toNat ((0 : Int32) + g13).toInt.toNat))) :: (a18, true, oXmlElement (vr a26) (vr a19) (vr a21) (vr a23) (vi 1) .null (vr a25) (vr a122)) :: (a27, false, oString (vr a28) (vi 0)) :: (a28, false, ar "" .byte []) :: (a26, true, oArrayList (vi 0) (vr (og1 Z))) :: (a25, true, oArrayList (vi 0) (vr (og1 Z))) :: (a23, false, oString (vr a24) (vi 0)) :: (a24, false, ar "" .byte [(vi 120)]) :: (a21, false, oString (vr a22) (vi 0)) :: []) rfl rfl ?_
      refine W.front 17 (D' := (a21, false, oString (vr a22) (vi 0)) :: (a22, false, ar "" .byte [(vi 120)]) :: (a19, false, oString (vr a20) (vi 0)) :: (a20, false, ar "" .byte []) :: (a17, true, ar "[C" .char [(vi g3), (vi g4), (vi g5)]) :: (a2, true, ar "[C" .char [(vi g3), (vi g4), (vi g5)]) :: (a6, true, ar "[C" .char [(vi g7), (vi g8), (vi g9)]) :: (a122, true, oStringBuilder (vr a123) (vi 0) (vi ((0 : Int32) + g13)) (vi 0)) :: (a123, true, ar "[B" .byte (lm gl126)) :: (a136, true, oString (vr a137) (vi 0)) :: (a137, true, ar "[B" .byte (lm (cpl gl126 (0 : Int32).toInt.toNat (List.replicate ((0 : Int32) + g13).toInt.toNat (0 : Int32)) (0 : Int32).toInt.toNat ((0 : Int32) + g13).toInt.toNat))) :: (a18, true, oXmlElement (vr a26) (vr a19) (vr a21) (vr a23) (vi 1) .null (vr a25) (vr a122)) :: (a27, false, oString (vr a28) (vi 0)) :: (a28, false, ar "" .byte []) :: (a26, true, oArrayList (vi 0) (vr (og1 Z))) :: (a25, true, oArrayList (vi 0) (vr (og1 Z))) :: (a23, false, oString (vr a24) (vi 0)) :: (a24, false, ar "" .byte [(vi 120)]) :: []) rfl rfl ?_
      refine W.front 17 (D' := (a24, false, ar "" .byte [(vi 120)]) :: (a21, false, oString (vr a22) (vi 0)) :: (a22, false, ar "" .byte [(vi 120)]) :: (a19, false, oString (vr a20) (vi 0)) :: (a20, false, ar "" .byte []) :: (a17, true, ar "[C" .char [(vi g3), (vi g4), (vi g5)]) :: (a2, true, ar "[C" .char [(vi g3), (vi g4), (vi g5)]) :: (a6, true, ar "[C" .char [(vi g7), (vi g8), (vi g9)]) :: (a122, true, oStringBuilder (vr a123) (vi 0) (vi ((0 : Int32) + g13)) (vi 0)) :: (a123, true, ar "[B" .byte (lm gl126)) :: (a136, true, oString (vr a137) (vi 0)) :: (a137, true, ar "[B" .byte (lm (cpl gl126 (0 : Int32).toInt.toNat (List.replicate ((0 : Int32) + g13).toInt.toNat (0 : Int32)) (0 : Int32).toInt.toNat ((0 : Int32) + g13).toInt.toNat))) :: (a18, true, oXmlElement (vr a26) (vr a19) (vr a21) (vr a23) (vi 1) .null (vr a25) (vr a122)) :: (a27, false, oString (vr a28) (vi 0)) :: (a28, false, ar "" .byte []) :: (a26, true, oArrayList (vi 0) (vr (og1 Z))) :: (a25, true, oArrayList (vi 0) (vr (og1 Z))) :: (a23, false, oString (vr a24) (vi 0)) :: []) rfl rfl ?_
      refine W.front 17 (D' := (a23, false, oString (vr a24) (vi 0)) :: (a24, false, ar "" .byte [(vi 120)]) :: (a21, false, oString (vr a22) (vi 0)) :: (a22, false, ar "" .byte [(vi 120)]) :: (a19, false, oString (vr a20) (vi 0)) :: (a20, false, ar "" .byte []) :: (a17, true, ar "[C" .char [(vi g3), (vi g4), (vi g5)]) :: (a2, true, ar "[C" .char [(vi g3), (vi g4), (vi g5)]) :: (a6, true, ar "[C" .char [(vi g7), (vi g8), (vi g9)]) :: (a122, true, oStringBuilder (vr a123) (vi 0) (vi ((0 : Int32) + g13)) (vi 0)) :: (a123, true, ar "[B" .byte (lm gl126)) :: (a136, true, oString (vr a137) (vi 0)) :: (a137, true, ar "[B" .byte (lm (cpl gl126 (0 : Int32).toInt.toNat (List.replicate ((0 : Int32) + g13).toInt.toNat (0 : Int32)) (0 : Int32).toInt.toNat ((0 : Int32) + g13).toInt.toNat))) :: (a18, true, oXmlElement (vr a26) (vr a19) (vr a21) (vr a23) (vi 1) .null (vr a25) (vr a122)) :: (a27, false, oString (vr a28) (vi 0)) :: (a28, false, ar "" .byte []) :: (a26, true, oArrayList (vi 0) (vr (og1 Z))) :: (a25, true, oArrayList (vi 0) (vr (og1 Z))) :: []) rfl rfl ?_
      refine W.front 17 (D' := (a25, true, oArrayList (vi 0) (vr (og1 Z))) :: (a23, false, oString (vr a24) (vi 0)) :: (a24, false, ar "" .byte [(vi 120)]) :: (a21, false, oString (vr a22) (vi 0)) :: (a22, false, ar "" .byte [(vi 120)]) :: (a19, false, oString (vr a20) (vi 0)) :: (a20, false, ar "" .byte []) :: (a17, true, ar "[C" .char [(vi g3), (vi g4), (vi g5)]) :: (a2, true, ar "[C" .char [(vi g3), (vi g4), (vi g5)]) :: (a6, true, ar "[C" .char [(vi g7), (vi g8), (vi g9)]) :: (a122, true, oStringBuilder (vr a123) (vi 0) (vi ((0 : Int32) + g13)) (vi 0)) :: (a123, true, ar "[B" .byte (lm gl126)) :: (a136, true, oString (vr a137) (vi 0)) :: (a137, true, ar "[B" .byte (lm (cpl gl126 (0 : Int32).toInt.toNat (List.replicate ((0 : Int32) + g13).toInt.toNat (0 : Int32)) (0 : Int32).toInt.toNat ((0 : Int32) + g13).toInt.toNat))) :: (a18, true, oXmlElement (vr a26) (vr a19) (vr a21) (vr a23) (vi 1) .null (vr a25) (vr a122)) :: (a27, false, oString (vr a28) (vi 0)) :: (a28, false, ar "" .byte []) :: (a26, true, oArrayList (vi 0) (vr (og1 Z))) :: []) rfl rfl ?_
      refine W.front 14 (D' := (a18, true, oXmlElement (vr a26) (vr a19) (vr a21) (vr a23) (vi 1) .null (vr a25) (vr a122)) :: (a25, true, oArrayList (vi 0) (vr (og1 Z))) :: (a23, false, oString (vr a24) (vi 0)) :: (a24, false, ar "" .byte [(vi 120)]) :: (a21, false, oString (vr a22) (vi 0)) :: (a22, false, ar "" .byte [(vi 120)]) :: (a19, false, oString (vr a20) (vi 0)) :: (a20, false, ar "" .byte []) :: (a17, true, ar "[C" .char [(vi g3), (vi g4), (vi g5)]) :: (a2, true, ar "[C" .char [(vi g3), (vi g4), (vi g5)]) :: (a6, true, ar "[C" .char [(vi g7), (vi g8), (vi g9)]) :: (a122, true, oStringBuilder (vr a123) (vi 0) (vi ((0 : Int32) + g13)) (vi 0)) :: (a123, true, ar "[B" .byte (lm gl126)) :: (a136, true, oString (vr a137) (vi 0)) :: (a137, true, ar "[B" .byte (lm (cpl gl126 (0 : Int32).toInt.toNat (List.replicate ((0 : Int32) + g13).toInt.toNat (0 : Int32)) (0 : Int32).toInt.toNat ((0 : Int32) + g13).toInt.toNat))) :: (a27, false, oString (vr a28) (vi 0)) :: (a28, false, ar "" .byte []) :: (a26, true, oArrayList (vi 0) (vr (og1 Z))) :: []) rfl rfl ?_
      refine W.front 17 (D' := (a26, true, oArrayList (vi 0) (vr (og1 Z))) :: (a18, true, oXmlElement (vr a26) (vr a19) (vr a21) (vr a23) (vi 1) .null (vr a25) (vr a122)) :: (a25, true, oArrayList (vi 0) (vr (og1 Z))) :: (a23, false, oString (vr a24) (vi 0)) :: (a24, false, ar "" .byte [(vi 120)]) :: (a21, false, oString (vr a22) (vi 0)) :: (a22, false, ar "" .byte [(vi 120)]) :: (a19, false, oString (vr a20) (vi 0)) :: (a20, false, ar "" .byte []) :: (a17, true, ar "[C" .char [(vi g3), (vi g4), (vi g5)]) :: (a2, true, ar "[C" .char [(vi g3), (vi g4), (vi g5)]) :: (a6, true, ar "[C" .char [(vi g7), (vi g8), (vi g9)]) :: (a122, true, oStringBuilder (vr a123) (vi 0) (vi ((0 : Int32) + g13)) (vi 0)) :: (a123, true, ar "[B" .byte (lm gl126)) :: (a136, true, oString (vr a137) (vi 0)) :: (a137, true, ar "[B" .byte (lm (cpl gl126 (0 : Int32).toInt.toNat (List.replicate ((0 : Int32) + g13).toInt.toNat (0 : Int32)) (0 : Int32).toInt.toNat ((0 : Int32) + g13).toInt.toNat))) :: (a27, false, oString (vr a28) (vi 0)) :: (a28, false, ar "" .byte []) :: []) rfl rfl ?_
      refine W.front 17 (D' := (a28, false, ar "" .byte []) :: (a26, true, oArrayList (vi 0) (vr (og1 Z))) :: (a18, true, oXmlElement (vr a26) (vr a19) (vr a21) (vr a23) (vi 1) .null (vr a25) (vr a122)) :: (a25, true, oArrayList (vi 0) (vr (og1 Z))) :: (a23, false, oString (vr a24) (vi 0)) :: (a24, false, ar "" .byte [(vi 120)]) :: (a21, false, oString (vr a22) (vi 0)) :: (a22, false, ar "" .byte [(vi 120)]) :: (a19, false, oString (vr a20) (vi 0)) :: (a20, false, ar "" .byte []) :: (a17, true, ar "[C" .char [(vi g3), (vi g4), (vi g5)]) :: (a2, true, ar "[C" .char [(vi g3), (vi g4), (vi g5)]) :: (a6, true, ar "[C" .char [(vi g7), (vi g8), (vi g9)]) :: (a122, true, oStringBuilder (vr a123) (vi 0) (vi ((0 : Int32) + g13)) (vi 0)) :: (a123, true, ar "[B" .byte (lm gl126)) :: (a136, true, oString (vr a137) (vi 0)) :: (a137, true, ar "[B" .byte (lm (cpl gl126 (0 : Int32).toInt.toNat (List.replicate ((0 : Int32) + g13).toInt.toNat (0 : Int32)) (0 : Int32).toInt.toNat ((0 : Int32) + g13).toInt.toNat))) :: (a27, false, oString (vr a28) (vi 0)) :: []) rfl rfl ?_
      refine W.front 17 (D' := (a27, false, oString (vr a28) (vi 0)) :: (a28, false, ar "" .byte []) :: (a26, true, oArrayList (vi 0) (vr (og1 Z))) :: (a18, true, oXmlElement (vr a26) (vr a19) (vr a21) (vr a23) (vi 1) .null (vr a25) (vr a122)) :: (a25, true, oArrayList (vi 0) (vr (og1 Z))) :: (a23, false, oString (vr a24) (vi 0)) :: (a24, false, ar "" .byte [(vi 120)]) :: (a21, false, oString (vr a22) (vi 0)) :: (a22, false, ar "" .byte [(vi 120)]) :: (a19, false, oString (vr a20) (vi 0)) :: (a20, false, ar "" .byte []) :: (a17, true, ar "[C" .char [(vi g3), (vi g4), (vi g5)]) :: (a2, true, ar "[C" .char [(vi g3), (vi g4), (vi g5)]) :: (a6, true, ar "[C" .char [(vi g7), (vi g8), (vi g9)]) :: (a122, true, oStringBuilder (vr a123) (vi 0) (vi ((0 : Int32) + g13)) (vi 0)) :: (a123, true, ar "[B" .byte (lm gl126)) :: (a136, true, oString (vr a137) (vi 0)) :: (a137, true, ar "[B" .byte (lm (cpl gl126 (0 : Int32).toInt.toNat (List.replicate ((0 : Int32) + g13).toInt.toNat (0 : Int32)) (0 : Int32).toInt.toNat ((0 : Int32) + g13).toInt.toNat))) :: []) rfl rfl ?_
      have hv140 := app_in0 hp127
      exact W.mono (by decide) (by decide) (K38 a122 a123 g124 gl126 a136 a137 ((0 : Int32) + g13) (cpl gl126 (0 : Int32).toInt.toNat (List.replicate ((0 : Int32) + g13).toInt.toNat (0 : Int32)) (0 : Int32).toInt.toNat ((0 : Int32) + g13).toInt.toNat) hg124 hgl126 (by have := q0; have := a_add (0 : Int32) g13; have := a_add g12 g13; have := q3; omega) hl138 (by have := q0; have := a_add (0 : Int32) g13; have := a_add g12 g13; have := q3; omega) (by have := q0; have := a_add (0 : Int32) g13; have := a_add g12 g13; have := q3; omega) (fun i hi => (dc_cplI (by have := q0; have := a_add (0 : Int32) g13; have := a_add g13 g15; have := a_add g12 g13; have := q3; have := a_add g14 g15; omega) (by have := hgl126; have := q0; have := a_add (0 : Int32) g13; have := a_add g13 g15; have := a_add g12 g13; have := q3; have := a_add g14 g15; omega) (by have := len_rep (z := ((0 : Int32) + g13)) (by have := q0; have := a_add (0 : Int32) g13; have := a_add g13 g15; have := a_add g12 g13; have := q3; have := a_add g14 g15; omega); have := q0; have := a_add (0 : Int32) g13; have := a_add g13 g15; have := a_add g12 g13; have := q3; have := a_add g14 g15; omega)).trans (hv140 i hi)) hv140)
    ·
     show W _ _ _ _ _ _ _ _ _ _ _ _ 171 _ []
     refine W.aload 12 at_171 rfl rfl ?_
     refine W.callV (as := []) 0 [] at_173 (wq hw 60 rfl) (wq hw 61 rfl) (wq hw 63 rfl) (wq hw 63 rfl) (wq hw 62 rfl) (wq hw 4 rfl) (wq hw 64 rfl) (Hp.exa m2) (c50_text hw hs (hx1 := (by have := q0; have := a_add (0 : Int32) g13; have := a_add g12 g13; have := q3; omega)) (hx2 := (by have := q1; have := ashl_1 g130; have := q0; have := a_add (0 : Int32) g13; have := a_add g12 g13; have := q3; omega)) (hr0 := by have := q0; have := a_add (0 : Int32) g13; have := q1; have := ashl_1 g130; have := ashr_1 (g130 <<< ((1 : Int32) &&& 31)); have := a_add g12 g13; have := q3; omega) (l1 := gl132) (hl_l1 := hgl132) (mp1 := m2) (mp7 := m1) (mp11 := m0)) (by decide) pd__Ljava_lang_String_ rfl rfl rfl rfl (by decide) (fun v D' h => ?_)
     rcases h with ⟨a141, a142, h13, rfl, rfl⟩ | ⟨a143, a144, h14, h15, hl145, rfl, rfl⟩
     ·
      have ih13 := t_eq h13
      show W _ _ _ _ _ _ _ _ _ _ _ _ 176 _ [(vr a141)]
      refine W.astore (ls' := #[iv z0, iv z1, iv z2, iv z3, iv z4, rv a2, rv a6, iv g12, iv g13, iv g14, iv g15, rv a17, rv a18, iv 1, rv a141, uu]) at_176 rfl rfl ?_
      refine W.front 1 (D' := (a141, true, oString (vr a142) (vi 1)) :: (a142, true, ar "[B" .byte (lm gl132)) :: (a129, true, ar "[B" .byte (lm gl132)) :: (a128, true, oStringBuilder (vr a129) (vi 1) (vi ((0 : Int32) + g13)) (vi 0)) :: (a18, true, oXmlElement (vr a26) (vr a19) (vr a21) (vr a23) (vi 1) .null (vr a25) (vr a128)) :: (a27, false, oString (vr a28) (vi 0)) :: (a28, false, ar "" .byte []) :: (a26, true, oArrayList (vi 0) (vr (og1 Z))) :: (a25, true, oArrayList (vi 0) (vr (og1 Z))) :: (a23, false, oString (vr a24) (vi 0)) :: (a24, false, ar "" .byte [(vi 120)]) :: (a21, false, oString (vr a22) (vi 0)) :: (a22, false, ar "" .byte [(vi 120)]) :: (a19, false, oString (vr a20) (vi 0)) :: (a20, false, ar "" .byte []) :: (a17, true, ar "[C" .char [(vi g3), (vi g4), (vi g5)]) :: (a2, true, ar "[C" .char [(vi g3), (vi g4), (vi g5)]) :: (a6, true, ar "[C" .char [(vi g7), (vi g8), (vi g9)]) :: []) rfl rfl ?_
      refine W.front 2 (D' := (a129, true, ar "[B" .byte (lm gl132)) :: (a141, true, oString (vr a142) (vi 1)) :: (a142, true, ar "[B" .byte (lm gl132)) :: (a128, true, oStringBuilder (vr a129) (vi 1) (vi ((0 : Int32) + g13)) (vi 0)) :: (a18, true, oXmlElement (vr a26) (vr a19) (vr a21) (vr a23) (vi 1) .null (vr a25) (vr a128)) :: (a27, false, oString (vr a28) (vi 0)) :: (a28, false, ar "" .byte []) :: (a26, true, oArrayList (vi 0) (vr (og1 Z))) :: (a25, true, oArrayList (vi 0) (vr (og1 Z))) :: (a23, false, oString (vr a24) (vi 0)) :: (a24, false, ar "" .byte [(vi 120)]) :: (a21, false, oString (vr a22) (vi 0)) :: (a22, false, ar "" .byte [(vi 120)]) :: (a19, false, oString (vr a20) (vi 0)) :: (a20, false, ar "" .byte []) :: (a17, true, ar "[C" .char [(vi g3), (vi g4), (vi g5)]) :: (a2, true, ar "[C" .char [(vi g3), (vi g4), (vi g5)]) :: (a6, true, ar "[C" .char [(vi g7), (vi g8), (vi g9)]) :: []) rfl rfl ?_
      refine W.front 3 (D' := (a128, true, oStringBuilder (vr a129) (vi 1) (vi ((0 : Int32) + g13)) (vi 0)) :: (a129, true, ar "[B" .byte (lm gl132)) :: (a141, true, oString (vr a142) (vi 1)) :: (a142, true, ar "[B" .byte (lm gl132)) :: (a18, true, oXmlElement (vr a26) (vr a19) (vr a21) (vr a23) (vi 1) .null (vr a25) (vr a128)) :: (a27, false, oString (vr a28) (vi 0)) :: (a28, false, ar "" .byte []) :: (a26, true, oArrayList (vi 0) (vr (og1 Z))) :: (a25, true, oArrayList (vi 0) (vr (og1 Z))) :: (a23, false, oString (vr a24) (vi 0)) :: (a24, false, ar "" .byte [(vi 120)]) :: (a21, false, oString (vr a22) (vi 0)) :: (a22, false, ar "" .byte [(vi 120)]) :: (a19, false, oString (vr a20) (vi 0)) :: (a20, false, ar "" .byte []) :: (a17, true, ar "[C" .char [(vi g3), (vi g4), (vi g5)]) :: (a2, true, ar "[C" .char [(vi g3), (vi g4), (vi g5)]) :: (a6, true, ar "[C" .char [(vi g7), (vi g8), (vi g9)]) :: []) rfl rfl ?_
      refine W.front 17 (D' := (a6, true, ar "[C" .char [(vi g7), (vi g8), (vi g9)]) :: (a128, true, oStringBuilder (vr a129) (vi 1) (vi ((0 : Int32) + g13)) (vi 0)) :: (a129, true, ar "[B" .byte (lm gl132)) :: (a141, true, oString (vr a142) (vi 1)) :: (a142, true, ar "[B" .byte (lm gl132)) :: (a18, true, oXmlElement (vr a26) (vr a19) (vr a21) (vr a23) (vi 1) .null (vr a25) (vr a128)) :: (a27, false, oString (vr a28) (vi 0)) :: (a28, false, ar "" .byte []) :: (a26, true, oArrayList (vi 0) (vr (og1 Z))) :: (a25, true, oArrayList (vi 0) (vr (og1 Z))) :: (a23, false, oString (vr a24) (vi 0)) :: (a24, false, ar "" .byte [(vi 120)]) :: (a21, false, oString (vr a22) (vi 0)) :: (a22, false, ar "" .byte [(vi 120)]) :: (a19, false, oString (vr a20) (vi 0)) :: (a20, false, ar "" .byte []) :: (a17, true, ar "[C" .char [(vi g3), (vi g4), (vi g5)]) :: (a2, true, ar "[C" .char [(vi g3), (vi g4), (vi g5)]) :: []) rfl rfl ?_
      refine W.front 17 (D' := (a2, true, ar "[C" .char [(vi g3), (vi g4), (vi g5)]) :: (a6, true, ar "[C" .char [(vi g7), (vi g8), (vi g9)]) :: (a128, true, oStringBuilder (vr a129) (vi 1) (vi ((0 : Int32) + g13)) (vi 0)) :: (a129, true, ar "[B" .byte (lm gl132)) :: (a141, true, oString (vr a142) (vi 1)) :: (a142, true, ar "[B" .byte (lm gl132)) :: (a18, true, oXmlElement (vr a26) (vr a19) (vr a21) (vr a23) (vi 1) .null (vr a25) (vr a128)) :: (a27, false, oString (vr a28) (vi 0)) :: (a28, false, ar "" .byte []) :: (a26, true, oArrayList (vi 0) (vr (og1 Z))) :: (a25, true, oArrayList (vi 0) (vr (og1 Z))) :: (a23, false, oString (vr a24) (vi 0)) :: (a24, false, ar "" .byte [(vi 120)]) :: (a21, false, oString (vr a22) (vi 0)) :: (a22, false, ar "" .byte [(vi 120)]) :: (a19, false, oString (vr a20) (vi 0)) :: (a20, false, ar "" .byte []) :: (a17, true, ar "[C" .char [(vi g3), (vi g4), (vi g5)]) :: []) rfl rfl ?_
      refine W.front 17 (D' := (a17, true, ar "[C" .char [(vi g3), (vi g4), (vi g5)]) :: (a2, true, ar "[C" .char [(vi g3), (vi g4), (vi g5)]) :: (a6, true, ar "[C" .char [(vi g7), (vi g8), (vi g9)]) :: (a128, true, oStringBuilder (vr a129) (vi 1) (vi ((0 : Int32) + g13)) (vi 0)) :: (a129, true, ar "[B" .byte (lm gl132)) :: (a141, true, oString (vr a142) (vi 1)) :: (a142, true, ar "[B" .byte (lm gl132)) :: (a18, true, oXmlElement (vr a26) (vr a19) (vr a21) (vr a23) (vi 1) .null (vr a25) (vr a128)) :: (a27, false, oString (vr a28) (vi 0)) :: (a28, false, ar "" .byte []) :: (a26, true, oArrayList (vi 0) (vr (og1 Z))) :: (a25, true, oArrayList (vi 0) (vr (og1 Z))) :: (a23, false, oString (vr a24) (vi 0)) :: (a24, false, ar "" .byte [(vi 120)]) :: (a21, false, oString (vr a22) (vi 0)) :: (a22, false, ar "" .byte [(vi 120)]) :: (a19, false, oString (vr a20) (vi 0)) :: (a20, false, ar "" .byte []) :: []) rfl rfl ?_
      refine W.front 17 (D' := (a20, false, ar "" .byte []) :: (a17, true, ar "[C" .char [(vi g3), (vi g4), (vi g5)]) :: (a2, true, ar "[C" .char [(vi g3), (vi g4), (vi g5)]) :: (a6, true, ar "[C" .char [(vi g7), (vi g8), (vi g9)]) :: (a128, true, oStringBuilder (vr a129) (vi 1) (vi ((0 : Int32) + g13)) (vi 0)) :: (a129, true, ar "[B" .byte (lm gl132)) :: (a141, true, oString (vr a142) (vi 1)) :: (a142, true, ar "[B" .byte (lm gl132)) :: (a18, true, oXmlElement (vr a26) (vr a19) (vr a21) (vr a23) (vi 1) .null (vr a25) (vr a128)) :: (a27, false, oString (vr a28) (vi 0)) :: (a28, false, ar "" .byte []) :: (a26, true, oArrayList (vi 0) (vr (og1 Z))) :: (a25, true, oArrayList (vi 0) (vr (og1 Z))) :: (a23, false, oString (vr a24) (vi 0)) :: (a24, false, ar "" .byte [(vi 120)]) :: (a21, false, oString (vr a22) (vi 0)) :: (a22, false, ar "" .byte [(vi 120)]) :: (a19, false, oString (vr a20) (vi 0)) :: []) rfl rfl ?_
      refine W.front 17 (D' := (a19, false, oString (vr a20) (vi 0)) :: (a20, false, ar "" .byte []) :: (a17, true, ar "[C" .char [(vi g3), (vi g4), (vi g5)]) :: (a2, true, ar "[C" .char [(vi g3), (vi g4), (vi g5)]) :: (a6, true, ar "[C" .char [(vi g7), (vi g8), (vi g9)]) :: (a128, true, oStringBuilder (vr a129) (vi 1) (vi ((0 : Int32) + g13)) (vi 0)) :: (a129, true, ar "[B" .byte (lm gl132)) :: (a141, true, oString (vr a142) (vi 1)) :: (a142, true, ar "[B" .byte (lm gl132)) :: (a18, true, oXmlElement (vr a26) (vr a19) (vr a21) (vr a23) (vi 1) .null (vr a25) (vr a128)) :: (a27, false, oString (vr a28) (vi 0)) :: (a28, false, ar "" .byte []) :: (a26, true, oArrayList (vi 0) (vr (og1 Z))) :: (a25, true, oArrayList (vi 0) (vr (og1 Z))) :: (a23, false, oString (vr a24) (vi 0)) :: (a24, false, ar "" .byte [(vi 120)]) :: (a21, false, oString (vr a22) (vi 0)) :: (a22, false, ar "" .byte [(vi 120)]) :: []) rfl rfl ?_
      refine W.front 17 (D' := (a22, false, ar "" .byte [(vi 120)]) :: (a19, false, oString (vr a20) (vi 0)) :: (a20, false, ar "" .byte []) :: (a17, true, ar "[C" .char [(vi g3), (vi g4), (vi g5)]) :: (a2, true, ar "[C" .char [(vi g3), (vi g4), (vi g5)]) :: (a6, true, ar "[C" .char [(vi g7), (vi g8), (vi g9)]) :: (a128, true, oStringBuilder (vr a129) (vi 1) (vi ((0 : Int32) + g13)) (vi 0)) :: (a129, true, ar "[B" .byte (lm gl132)) :: (a141, true, oString (vr a142) (vi 1)) :: (a142, true, ar "[B" .byte (lm gl132)) :: (a18, true, oXmlElement (vr a26) (vr a19) (vr a21) (vr a23) (vi 1) .null (vr a25) (vr a128)) :: (a27, false, oString (vr a28) (vi 0)) :: (a28, false, ar "" .byte []) :: (a26, true, oArrayList (vi 0) (vr (og1 Z))) :: (a25, true, oArrayList (vi 0) (vr (og1 Z))) :: (a23, false, oString (vr a24) (vi 0)) :: (a24, false, ar "" .byte [(vi 120)]) :: (a21, false, oString (vr a22) (vi 0)) :: []) rfl rfl ?_
      refine W.front 17 (D' := (a21, false, oString (vr a22) (vi 0)) :: (a22, false, ar "" .byte [(vi 120)]) :: (a19, false, oString (vr a20) (vi 0)) :: (a20, false, ar "" .byte []) :: (a17, true, ar "[C" .char [(vi g3), (vi g4), (vi g5)]) :: (a2, true, ar "[C" .char [(vi g3), (vi g4), (vi g5)]) :: (a6, true, ar "[C" .char [(vi g7), (vi g8), (vi g9)]) :: (a128, true, oStringBuilder (vr a129) (vi 1) (vi ((0 : Int32) + g13)) (vi 0)) :: (a129, true, ar "[B" .byte (lm gl132)) :: (a141, true, oString (vr a142) (vi 1)) :: (a142, true, ar "[B" .byte (lm gl132)) :: (a18, true, oXmlElement (vr a26) (vr a19) (vr a21) (vr a23) (vi 1) .null (vr a25) (vr a128)) :: (a27, false, oString (vr a28) (vi 0)) :: (a28, false, ar "" .byte []) :: (a26, true, oArrayList (vi 0) (vr (og1 Z))) :: (a25, true, oArrayList (vi 0) (vr (og1 Z))) :: (a23, false, oString (vr a24) (vi 0)) :: (a24, false, ar "" .byte [(vi 120)]) :: []) rfl rfl ?_
      refine W.front 17 (D' := (a24, false, ar "" .byte [(vi 120)]) :: (a21, false, oString (vr a22) (vi 0)) :: (a22, false, ar "" .byte [(vi 120)]) :: (a19, false, oString (vr a20) (vi 0)) :: (a20, false, ar "" .byte []) :: (a17, true, ar "[C" .char [(vi g3), (vi g4), (vi g5)]) :: (a2, true, ar "[C" .char [(vi g3), (vi g4), (vi g5)]) :: (a6, true, ar "[C" .char [(vi g7), (vi g8), (vi g9)]) :: (a128, true, oStringBuilder (vr a129) (vi 1) (vi ((0 : Int32) + g13)) (vi 0)) :: (a129, true, ar "[B" .byte (lm gl132)) :: (a141, true, oString (vr a142) (vi 1)) :: (a142, true, ar "[B" .byte (lm gl132)) :: (a18, true, oXmlElement (vr a26) (vr a19) (vr a21) (vr a23) (vi 1) .null (vr a25) (vr a128)) :: (a27, false, oString (vr a28) (vi 0)) :: (a28, false, ar "" .byte []) :: (a26, true, oArrayList (vi 0) (vr (og1 Z))) :: (a25, true, oArrayList (vi 0) (vr (og1 Z))) :: (a23, false, oString (vr a24) (vi 0)) :: []) rfl rfl ?_
      refine W.front 17 (D' := (a23, false, oString (vr a24) (vi 0)) :: (a24, false, ar "" .byte [(vi 120)]) :: (a21, false, oString (vr a22) (vi 0)) :: (a22, false, ar "" .byte [(vi 120)]) :: (a19, false, oString (vr a20) (vi 0)) :: (a20, false, ar "" .byte []) :: (a17, true, ar "[C" .char [(vi g3), (vi g4), (vi g5)]) :: (a2, true, ar "[C" .char [(vi g3), (vi g4), (vi g5)]) :: (a6, true, ar "[C" .char [(vi g7), (vi g8), (vi g9)]) :: (a128, true, oStringBuilder (vr a129) (vi 1) (vi ((0 : Int32) + g13)) (vi 0)) :: (a129, true, ar "[B" .byte (lm gl132)) :: (a141, true, oString (vr a142) (vi 1)) :: (a142, true, ar "[B" .byte (lm gl132)) :: (a18, true, oXmlElement (vr a26) (vr a19) (vr a21) (vr a23) (vi 1) .null (vr a25) (vr a128)) :: (a27, false, oString (vr a28) (vi 0)) :: (a28, false, ar "" .byte []) :: (a26, true, oArrayList (vi 0) (vr (og1 Z))) :: (a25, true, oArrayList (vi 0) (vr (og1 Z))) :: []) rfl rfl ?_
      refine W.front 17 (D' := (a25, true, oArrayList (vi 0) (vr (og1 Z))) :: (a23, false, oString (vr a24) (vi 0)) :: (a24, false, ar "" .byte [(vi 120)]) :: (a21, false, oString (vr a22) (vi 0)) :: (a22, false, ar "" .byte [(vi 120)]) :: (a19, false, oString (vr a20) (vi 0)) :: (a20, false, ar "" .byte []) :: (a17, true, ar "[C" .char [(vi g3), (vi g4), (vi g5)]) :: (a2, true, ar "[C" .char [(vi g3), (vi g4), (vi g5)]) :: (a6, true, ar "[C" .char [(vi g7), (vi g8), (vi g9)]) :: (a128, true, oStringBuilder (vr a129) (vi 1) (vi ((0 : Int32) + g13)) (vi 0)) :: (a129, true, ar "[B" .byte (lm gl132)) :: (a141, true, oString (vr a142) (vi 1)) :: (a142, true, ar "[B" .byte (lm gl132)) :: (a18, true, oXmlElement (vr a26) (vr a19) (vr a21) (vr a23) (vi 1) .null (vr a25) (vr a128)) :: (a27, false, oString (vr a28) (vi 0)) :: (a28, false, ar "" .byte []) :: (a26, true, oArrayList (vi 0) (vr (og1 Z))) :: []) rfl rfl ?_
      refine W.front 14 (D' := (a18, true, oXmlElement (vr a26) (vr a19) (vr a21) (vr a23) (vi 1) .null (vr a25) (vr a128)) :: (a25, true, oArrayList (vi 0) (vr (og1 Z))) :: (a23, false, oString (vr a24) (vi 0)) :: (a24, false, ar "" .byte [(vi 120)]) :: (a21, false, oString (vr a22) (vi 0)) :: (a22, false, ar "" .byte [(vi 120)]) :: (a19, false, oString (vr a20) (vi 0)) :: (a20, false, ar "" .byte []) :: (a17, true, ar "[C" .char [(vi g3), (vi g4), (vi g5)]) :: (a2, true, ar "[C" .char [(vi g3), (vi g4), (vi g5)]) :: (a6, true, ar "[C" .char [(vi g7), (vi g8), (vi g9)]) :: (a128, true, oStringBuilder (vr a129) (vi 1) (vi ((0 : Int32) + g13)) (vi 0)) :: (a129, true, ar "[B" .byte (lm gl132)) :: (a141, true, oString (vr a142) (vi 1)) :: (a142, true, ar "[B" .byte (lm gl132)) :: (a27, false, oString (vr a28) (vi 0)) :: (a28, false, ar "" .byte []) :: (a26, true, oArrayList (vi 0) (vr (og1 Z))) :: []) rfl rfl ?_
      refine W.front 17 (D' := (a26, true, oArrayList (vi 0) (vr (og1 Z))) :: (a18, true, oXmlElement (vr a26) (vr a19) (vr a21) (vr a23) (vi 1) .null (vr a25) (vr a128)) :: (a25, true, oArrayList (vi 0) (vr (og1 Z))) :: (a23, false, oString (vr a24) (vi 0)) :: (a24, false, ar "" .byte [(vi 120)]) :: (a21, false, oString (vr a22) (vi 0)) :: (a22, false, ar "" .byte [(vi 120)]) :: (a19, false, oString (vr a20) (vi 0)) :: (a20, false, ar "" .byte []) :: (a17, true, ar "[C" .char [(vi g3), (vi g4), (vi g5)]) :: (a2, true, ar "[C" .char [(vi g3), (vi g4), (vi g5)]) :: (a6, true, ar "[C" .char [(vi g7), (vi g8), (vi g9)]) :: (a128, true, oStringBuilder (vr a129) (vi 1) (vi ((0 : Int32) + g13)) (vi 0)) :: (a129, true, ar "[B" .byte (lm gl132)) :: (a141, true, oString (vr a142) (vi 1)) :: (a142, true, ar "[B" .byte (lm gl132)) :: (a27, false, oString (vr a28) (vi 0)) :: (a28, false, ar "" .byte []) :: []) rfl rfl ?_
      refine W.front 17 (D' := (a28, false, ar "" .byte []) :: (a26, true, oArrayList (vi 0) (vr (og1 Z))) :: (a18, true, oXmlElement (vr a26) (vr a19) (vr a21) (vr a23) (vi 1) .null (vr a25) (vr a128)) :: (a25, true, oArrayList (vi 0) (vr (og1 Z))) :: (a23, false, oString (vr a24) (vi 0)) :: (a24, false, ar "" .byte [(vi 120)]) :: (a21, false, oString (vr a22) (vi 0)) :: (a22, false, ar "" .byte [(vi 120)]) :: (a19, false, oString (vr a20) (vi 0)) :: (a20, false, ar "" .byte []) :: (a17, true, ar "[C" .char [(vi g3), (vi g4), (vi g5)]) :: (a2, true, ar "[C" .char [(vi g3), (vi g4), (vi g5)]) :: (a6, true, ar "[C" .char [(vi g7), (vi g8), (vi g9)]) :: (a128, true, oStringBuilder (vr a129) (vi 1) (vi ((0 : Int32) + g13)) (vi 0)) :: (a129, true, ar "[B" .byte (lm gl132)) :: (a141, true, oString (vr a142) (vi 1)) :: (a142, true, ar "[B" .byte (lm gl132)) :: (a27, false, oString (vr a28) (vi 0)) :: []) rfl rfl ?_
      refine W.front 17 (D' := (a27, false, oString (vr a28) (vi 0)) :: (a28, false, ar "" .byte []) :: (a26, true, oArrayList (vi 0) (vr (og1 Z))) :: (a18, true, oXmlElement (vr a26) (vr a19) (vr a21) (vr a23) (vi 1) .null (vr a25) (vr a128)) :: (a25, true, oArrayList (vi 0) (vr (og1 Z))) :: (a23, false, oString (vr a24) (vi 0)) :: (a24, false, ar "" .byte [(vi 120)]) :: (a21, false, oString (vr a22) (vi 0)) :: (a22, false, ar "" .byte [(vi 120)]) :: (a19, false, oString (vr a20) (vi 0)) :: (a20, false, ar "" .byte []) :: (a17, true, ar "[C" .char [(vi g3), (vi g4), (vi g5)]) :: (a2, true, ar "[C" .char [(vi g3), (vi g4), (vi g5)]) :: (a6, true, ar "[C" .char [(vi g7), (vi g8), (vi g9)]) :: (a128, true, oStringBuilder (vr a129) (vi 1) (vi ((0 : Int32) + g13)) (vi 0)) :: (a129, true, ar "[B" .byte (lm gl132)) :: (a141, true, oString (vr a142) (vi 1)) :: (a142, true, ar "[B" .byte (lm gl132)) :: []) rfl rfl ?_
      have hv146 := app_in0 hp133
      exact W.mono (by decide) (by decide) (K96 a128 a129 (g130 <<< ((1 : Int32) &&& 31)) gl132 a141 a142 (g130 <<< ((1 : Int32) &&& 31)) gl132 (by have := q1; have := ashl_1 g130; have := q0; have := a_add (0 : Int32) g13; have := ashl_1 ((0 : Int32) + g13); have := a_add g12 g13; have := q3; omega) hgl132 (by have := q1; have := ashl_1 g130; have := q0; have := a_add (0 : Int32) g13; have := ashl_1 ((0 : Int32) + g13); have := a_add g12 g13; have := q3; omega) hgl132 (by have := q1; have := ashl_1 g130; have := ashl_1 g13; have := a_add g12 g13; have := q3; have := q0; have := a_add (0 : Int32) g13; have := ashl_1 ((0 : Int32) + g13); omega) (by have := q0; have := a_add (0 : Int32) g13; have := q1; have := ashl_1 g130; have := ashr_1 (g130 <<< ((1 : Int32) &&& 31)); have := a_add g12 g13; have := q3; have := ashl_1 ((0 : Int32) + g13); omega) hv146 hv146)
     ·
      have ih14 := f_eq h14
      have ih15 := t_gt h15
      show W _ _ _ _ _ _ _ _ _ _ _ _ 176 _ [(vr a143)]
      refine W.astore (ls' := #[iv z0, iv z1, iv z2, iv z3, iv z4, rv a2, rv a6, iv g12, iv g13, iv g14, iv g15, rv a17, rv a18, iv 1, rv a143, uu]) at_176 rfl rfl ?_
      refine W.front 1 (D' := (a143, true, oString (vr a144) (vi 1)) :: (a144, true, ar "[B" .byte (lm (cpl gl132 (0 : Int32).toInt.toNat (List.replicate (((0 : Int32) + g13) <<< ((1 : Int32) &&& 31)).toInt.toNat (0 : Int32)) (0 : Int32).toInt.toNat (((0 : Int32) + g13) <<< ((1 : Int32) &&& 31)).toInt.toNat))) :: (a129, true, ar "[B" .byte (lm gl132)) :: (a128, true, oStringBuilder (vr a129) (vi 1) (vi ((0 : Int32) + g13)) (vi 0)) :: (a18, true, oXmlElement (vr a26) (vr a19) (vr a21) (vr a23) (vi 1) .null (vr a25) (vr a128)) :: (a27, false, oString (vr a28) (vi 0)) :: (a28, false, ar "" .byte []) :: (a26, true, oArrayList (vi 0) (vr (og1 Z))) :: (a25, true, oArrayList (vi 0) (vr (og1 Z))) :: (a23, false, oString (vr a24) (vi 0)) :: (a24, false, ar "" .byte [(vi 120)]) :: (a21, false, oString (vr a22) (vi 0)) :: (a22, false, ar "" .byte [(vi 120)]) :: (a19, false, oString (vr a20) (vi 0)) :: (a20, false, ar "" .byte []) :: (a17, true, ar "[C" .char [(vi g3), (vi g4), (vi g5)]) :: (a2, true, ar "[C" .char [(vi g3), (vi g4), (vi g5)]) :: (a6, true, ar "[C" .char [(vi g7), (vi g8), (vi g9)]) :: []) rfl rfl ?_
      refine W.front 2 (D' := (a129, true, ar "[B" .byte (lm gl132)) :: (a143, true, oString (vr a144) (vi 1)) :: (a144, true, ar "[B" .byte (lm (cpl gl132 (0 : Int32).toInt.toNat (List.replicate (((0 : Int32) + g13) <<< ((1 : Int32) &&& 31)).toInt.toNat (0 : Int32)) (0 : Int32).toInt.toNat (((0 : Int32) + g13) <<< ((1 : Int32) &&& 31)).toInt.toNat))) :: (a128, true, oStringBuilder (vr a129) (vi 1) (vi ((0 : Int32) + g13)) (vi 0)) :: (a18, true, oXmlElement (vr a26) (vr a19) (vr a21) (vr a23) (vi 1) .null (vr a25) (vr a128)) :: (a27, false, oString (vr a28) (vi 0)) :: (a28, false, ar "" .byte []) :: (a26, true, oArrayList (vi 0) (vr (og1 Z))) :: (a25, true, oArrayList (vi 0) (vr (og1 Z))) :: (a23, false, oString (vr a24) (vi 0)) :: (a24, false, ar "" .byte [(vi 120)]) :: (a21, false, oString (vr a22) (vi 0)) :: (a22, false, ar "" .byte [(vi 120)]) :: (a19, false, oString (vr a20) (vi 0)) :: (a20, false, ar "" .byte []) :: (a17, true, ar "[C" .char [(vi g3), (vi g4), (vi g5)]) :: (a2, true, ar "[C" .char [(vi g3), (vi g4), (vi g5)]) :: (a6, true, ar "[C" .char [(vi g7), (vi g8), (vi g9)]) :: []) rfl rfl ?_
      refine W.front 3 (D' := (a128, true, oStringBuilder (vr a129) (vi 1) (vi ((0 : Int32) + g13)) (vi 0)) :: (a129, true, ar "[B" .byte (lm gl132)) :: (a143, true, oString (vr a144) (vi 1)) :: (a144, true, ar "[B" .byte (lm (cpl gl132 (0 : Int32).toInt.toNat (List.replicate (((0 : Int32) + g13) <<< ((1 : Int32) &&& 31)).toInt.toNat (0 : Int32)) (0 : Int32).toInt.toNat (((0 : Int32) + g13) <<< ((1 : Int32) &&& 31)).toInt.toNat))) :: (a18, true, oXmlElement (vr a26) (vr a19) (vr a21) (vr a23) (vi 1) .null (vr a25) (vr a128)) :: (a27, false, oString (vr a28) (vi 0)) :: (a28, false, ar "" .byte []) :: (a26, true, oArrayList (vi 0) (vr (og1 Z))) :: (a25, true, oArrayList (vi 0) (vr (og1 Z))) :: (a23, false, oString (vr a24) (vi 0)) :: (a24, false, ar "" .byte [(vi 120)]) :: (a21, false, oString (vr a22) (vi 0)) :: (a22, false, ar "" .byte [(vi 120)]) :: (a19, false, oString (vr a20) (vi 0)) :: (a20, false, ar "" .byte []) :: (a17, true, ar "[C" .char [(vi g3), (vi g4), (vi g5)]) :: (a2, true, ar "[C" .char [(vi g3), (vi g4), (vi g5)]) :: (a6, true, ar "[C" .char [(vi g7), (vi g8), (vi g9)]) :: []) rfl rfl ?_
      refine W.front 17 (D' := (a6, true, ar "[C" .char [(vi g7), (vi g8), (vi g9)]) :: (a128, true, oStringBuilder (vr a129) (vi 1) (vi ((0 : Int32) + g13)) (vi 0)) :: (a129, true, ar "[B" .byte (lm gl132)) :: (a143, true, oString (vr a144) (vi 1)) :: (a144, true, ar "[B" .byte (lm (cpl gl132 (0 : Int32).toInt.toNat (List.replicate (((0 : Int32) + g13) <<< ((1 : Int32) &&& 31)).toInt.toNat (0 : Int32)) (0 : Int32).toInt.toNat (((0 : Int32) + g13) <<< ((1 : Int32) &&& 31)).toInt.toNat))) :: (a18, true, oXmlElement (vr a26) (vr a19) (vr a21) (vr a23) (vi 1) .null (vr a25) (vr a128)) :: (a27, false, oString (vr a28) (vi 0)) :: (a28, false, ar "" .byte []) :: (a26, true, oArrayList (vi 0) (vr (og1 Z))) :: (a25, true, oArrayList (vi 0) (vr (og1 Z))) :: (a23, false, oString (vr a24) (vi 0)) :: (a24, false, ar "" .byte [(vi 120)]) :: (a21, false, oString (vr a22) (vi 0)) :: (a22, false, ar "" .byte [(vi 120)]) :: (a19, false, oString (vr a20) (vi 0)) :: (a20, false, ar "" .byte []) :: (a17, true, ar "[C" .char [(vi g3), (vi g4), (vi g5)]) :: (a2, true, ar "[C" .char [(vi g3), (vi g4), (vi g5)]) :: []) rfl rfl ?_
      refine W.front 17 (D' := (a2, true, ar "[C" .char [(vi g3), (vi g4), (vi g5)]) :: (a6, true, ar "[C" .char [(vi g7), (vi g8), (vi g9)]) :: (a128, true, oStringBuilder (vr a129) (vi 1) (vi ((0 : Int32) + g13)) (vi 0)) :: (a129, true, ar "[B" .byte (lm gl132)) :: (a143, true, oString (vr a144) (vi 1)) :: (a144, true, ar "[B" .byte (lm (cpl gl132 (0 : Int32).toInt.toNat (List.replicate (((0 : Int32) + g13) <<< ((1 : Int32) &&& 31)).toInt.toNat (0 : Int32)) (0 : Int32).toInt.toNat (((0 : Int32) + g13) <<< ((1 : Int32) &&& 31)).toInt.toNat))) :: (a18, true, oXmlElement (vr a26) (vr a19) (vr a21) (vr a23) (vi 1) .null (vr a25) (vr a128)) :: (a27, false, oString (vr a28) (vi 0)) :: (a28, false, ar "" .byte []) :: (a26, true, oArrayList (vi 0) (vr (og1 Z))) :: (a25, true, oArrayList (vi 0) (vr (og1 Z))) :: (a23, false, oString (vr a24) (vi 0)) :: (a24, false, ar "" .byte [(vi 120)]) :: (a21, false, oString (vr a22) (vi 0)) :: (a22, false, ar "" .byte [(vi 120)]) :: (a19, false, oString (vr a20) (vi 0)) :: (a20, false, ar "" .byte []) :: (a17, true, ar "[C" .char [(vi g3), (vi g4), (vi g5)]) :: []) rfl rfl ?_
      refine W.front 17 (D' := (a17, true, ar "[C" .char [(vi g3), (vi g4), (vi g5)]) :: (a2, true, ar "[C" .char [(vi g3), (vi g4), (vi g5)]) :: (a6, true, ar "[C" .char [(vi g7), (vi g8), (vi g9)]) :: (a128, true, oStringBuilder (vr a129) (vi 1) (vi ((0 : Int32) + g13)) (vi 0)) :: (a129, true, ar "[B" .byte (lm gl132)) :: (a143, true, oString (vr a144) (vi 1)) :: (a144, true, ar "[B" .byte (lm (cpl gl132 (0 : Int32).toInt.toNat (List.replicate (((0 : Int32) + g13) <<< ((1 : Int32) &&& 31)).toInt.toNat (0 : Int32)) (0 : Int32).toInt.toNat (((0 : Int32) + g13) <<< ((1 : Int32) &&& 31)).toInt.toNat))) :: (a18, true, oXmlElement (vr a26) (vr a19) (vr a21) (vr a23) (vi 1) .null (vr a25) (vr a128)) :: (a27, false, oString (vr a28) (vi 0)) :: (a28, false, ar "" .byte []) :: (a26, true, oArrayList (vi 0) (vr (og1 Z))) :: (a25, true, oArrayList (vi 0) (vr (og1 Z))) :: (a23, false, oString (vr a24) (vi 0)) :: (a24, false, ar "" .byte [(vi 120)]) :: (a21, false, oString (vr a22) (vi 0)) :: (a22, false, ar "" .byte [(vi 120)]) :: (a19, false, oString (vr a20) (vi 0)) :: (a20, false, ar "" .byte []) :: []) rfl rfl ?_
      refine W.front 17 (D' := (a20, false, ar "" .byte []) :: (a17, true, ar "[C" .char [(vi g3), (vi g4), (vi g5)]) :: (a2, true, ar "[C" .char [(vi g3), (vi g4), (vi g5)]) :: (a6, true, ar "[C" .char [(vi g7), (vi g8), (vi g9)]) :: (a128, true, oStringBuilder (vr a129) (vi 1) (vi ((0 : Int32) + g13)) (vi 0)) :: (a129, true, ar "[B" .byte (lm gl132)) :: (a143, true, oString (vr a144) (vi 1)) :: (a144, true, ar "[B" .byte (lm (cpl gl132 (0 : Int32).toInt.toNat (List.replicate (((0 : Int32) + g13) <<< ((1 : Int32) &&& 31)).toInt.toNat (0 : Int32)) (0 : Int32).toInt.toNat (((0 : Int32) + g13) <<< ((1 : Int32) &&& 31)).toInt.toNat))) :: (a18, true, oXmlElement (vr a26) (vr a19) (vr a21) (vr a23) (vi 1) .null (vr a25) (vr a128)) :: (a27, false, oString (vr a28) (vi 0)) :: (a28, false, ar "" .byte []) :: (a26, true, oArrayList (vi 0) (vr (og1 Z))) :: (a25, true, oArrayList (vi 0) (vr (og1 Z))) :: (a23, false, oString (vr a24) (vi 0)) :: (a24, false, ar "" .byte [(vi 120)]) :: (a21, false, oString (vr a22) (vi 0)) :: (a22, false, ar "" .byte [(vi 120)]) :: (a19, false, oString (vr a20) (vi 0)) :: []) rfl rfl ?_
      refine W.front 17 (D' := (a19, false, oString (vr a20) (vi 0)) :: (a20, false, ar "" .byte []) :: (a17, true, ar "[C" .char [(vi g3), (vi g4), (vi g5)]) :: (a2, true, ar "[C" .char [(vi g3), (vi g4), (vi g5)]) :: (a6, true, ar "[C" .char [(vi g7), (vi g8), (vi g9)]) :: (a128, true, oStringBuilder (vr a129) (vi 1) (vi ((0 : Int32) + g13)) (vi 0)) :: (a129, true, ar "[B" .byte (lm gl132)) :: (a143, true, oString (vr a144) (vi 1)) :: (a144, true, ar "[B" .byte (lm (cpl gl132 (0 : Int32).toInt.toNat (List.replicate (((0 : Int32) + g13) <<< ((1 : Int32) &&& 31)).toInt.toNat (0 : Int32)) (0 : Int32).toInt.toNat (((0 : Int32) + g13) <<< ((1 : Int32) &&& 31)).toInt.toNat))) :: (a18, true, oXmlElement (vr a26) (vr a19) (vr a21) (vr a23) (vi 1) .null (vr a25) (vr a128)) :: (a27, false, oString (vr a28) (vi 0)) :: (a28, false, ar "" .byte []) :: (a26, true, oArrayList (vi 0) (vr (og1 Z))) :: (a25, true, oArrayList (vi 0) (vr (og1 Z))) :: (a23, false, oString (vr a24) (vi 0)) :: (a24, false, ar "" .byte [(vi 120)]) :: (a21, false, oString (vr a22) (vi 0)) :: (a22, false, ar "" .byte [(vi 120)]) :: []) rfl rfl ?_
      refine W.front 17 (D' := (a22, false, ar "" .byte [(vi 120)]) :: (a19, false, oString (vr a20) (vi 0)) :: (a20, false, ar "" .byte []) :: (a17, true, ar "[C" .char [(vi g3), (vi g4), (vi g5)]) :: (a2, true, ar "[C" .char [(vi g3), (vi g4), (vi g5)]) :: (a6, true, ar "[C" .char [(vi g7), (vi g8), (vi g9)]) :: (a128, true, oStringBuilder (vr a129) (vi 1) (vi ((0 : Int32) + g13)) (vi 0)) :: (a129, true, ar "[B" .byte (lm gl132)) :: (a143, true, oString (vr a144) (vi 1)) :: (a144, true, ar "[B" .byte (lm (cpl gl132 (0 : Int32).toInt.toNat (List.replicate (((0 : Int32) + g13) <<< ((1 : Int32) &&& 31)).toInt.toNat (0 : Int32)) (0 : Int32).toInt.toNat (((0 : Int32) + g13) <<< ((1 : Int32) &&& 31)).toInt.toNat))) :: (a18, true, oXmlElement (vr a26) (vr a19) (vr a21) (vr a23) (vi 1) .null (vr a25) (vr a128)) :: (a27, false, oString (vr a28) (vi 0)) :: (a28, false, ar "" .byte []) :: (a26, true, oArrayList (vi 0) (vr (og1 Z))) :: (a25, true, oArrayList (vi 0) (vr (og1 Z))) :: (a23, false, oString (vr a24) (vi 0)) :: (a24, false, ar "" .byte [(vi 120)]) :: (a21, false, oString (vr a22) (vi 0)) :: []) rfl rfl ?_
      refine W.front 17 (D' := (a21, false, oString (vr a22) (vi 0)) :: (a22, false, ar "" .byte [(vi 120)]) :: (a19, false, oString (vr a20) (vi 0)) :: (a20, false, ar "" .byte []) :: (a17, true, ar "[C" .char [(vi g3), (vi g4), (vi g5)]) :: (a2, true, ar "[C" .char [(vi g3), (vi g4), (vi g5)]) :: (a6, true, ar "[C" .char [(vi g7), (vi g8), (vi g9)]) :: (a128, true, oStringBuilder (vr a129) (vi 1) (vi ((0 : Int32) + g13)) (vi 0)) :: (a129, true, ar "[B" .byte (lm gl132)) :: (a143, true, oString (vr a144) (vi 1)) :: (a144, true, ar "[B" .byte (lm (cpl gl132 (0 : Int32).toInt.toNat (List.replicate (((0 : Int32) + g13) <<< ((1 : Int32) &&& 31)).toInt.toNat (0 : Int32)) (0 : Int32).toInt.toNat (((0 : Int32) + g13) <<< ((1 : Int32) &&& 31)).toInt.toNat))) :: (a18, true, oXmlElement (vr a26) (vr a19) (vr a21) (vr a23) (vi 1) .null (vr a25) (vr a128)) :: (a27, false, oString (vr a28) (vi 0)) :: (a28, false, ar "" .byte []) :: (a26, true, oArrayList (vi 0) (vr (og1 Z))) :: (a25, true, oArrayList (vi 0) (vr (og1 Z))) :: (a23, false, oString (vr a24) (vi 0)) :: (a24, false, ar "" .byte [(vi 120)]) :: []) rfl rfl ?_
      refine W.front 17 (D' := (a24, false, ar "" .byte [(vi 120)]) :: (a21, false, oString (vr a22) (vi 0)) :: (a22, false, ar "" .byte [(vi 120)]) :: (a19, false, oString (vr a20) (vi 0)) :: (a20, false, ar "" .byte []) :: (a17, true, ar "[C" .char [(vi g3), (vi g4), (vi g5)]) :: (a2, true, ar "[C" .char [(vi g3), (vi g4), (vi g5)]) :: (a6, true, ar "[C" .char [(vi g7), (vi g8), (vi g9)]) :: (a128, true, oStringBuilder (vr a129) (vi 1) (vi ((0 : Int32) + g13)) (vi 0)) :: (a129, true, ar "[B" .byte (lm gl132)) :: (a143, true, oString (vr a144) (vi 1)) :: (a144, true, ar "[B" .byte (lm (cpl gl132 (0 : Int32).toInt.toNat (List.replicate (((0 : Int32) + g13) <<< ((1 : Int32) &&& 31)).toInt.toNat (0 : Int32)) (0 : Int32).toInt.toNat (((0 : Int32) + g13) <<< ((1 : Int32) &&& 31)).toInt.toNat))) :: (a18, true, oXmlElement (vr a26) (vr a19) (vr a21) (vr a23) (vi 1) .null (vr a25) (vr a128)) :: (a27, false, oString (vr a28) (vi 0)) :: (a28, false, ar "" .byte []) :: (a26, true, oArrayList (vi 0) (vr (og1 Z))) :: (a25, true, oArrayList (vi 0) (vr (og1 Z))) :: (a23, false, oString (vr a24) (vi 0)) :: []) rfl rfl ?_
      refine W.front 17 (D' := (a23, false, oString (vr a24) (vi 0)) :: (a24, false, ar "" .byte [(vi 120)]) :: (a21, false, oString (vr a22) (vi 0)) :: (a22, false, ar "" .byte [(vi 120)]) :: (a19, false, oString (vr a20) (vi 0)) :: (a20, false, ar "" .byte []) :: (a17, true, ar "[C" .char [(vi g3), (vi g4), (vi g5)]) :: (a2, true, ar "[C" .char [(vi g3), (vi g4), (vi g5)]) :: (a6, true, ar "[C" .char [(vi g7), (vi g8), (vi g9)]) :: (a128, true, oStringBuilder (vr a129) (vi 1) (vi ((0 : Int32) + g13)) (vi 0)) :: (a129, true, ar "[B" .byte (lm gl132)) :: (a143, true, oString (vr a144) (vi 1)) :: (a144, true, ar "[B" .byte (lm (cpl gl132 (0 : Int32).toInt.toNat (List.replicate (((0 : Int32) + g13) <<< ((1 : Int32) &&& 31)).toInt.toNat (0 : Int32)) (0 : Int32).toInt.toNat (((0 : Int32) + g13) <<< ((1 : Int32) &&& 31)).toInt.toNat))) :: (a18, true, oXmlElement (vr a26) (vr a19) (vr a21) (vr a23) (vi 1) .null (vr a25) (vr a128)) :: (a27, false, oString (vr a28) (vi 0)) :: (a28, false, ar "" .byte []) :: (a26, true, oArrayList (vi 0) (vr (og1 Z))) :: (a25, true, oArrayList (vi 0) (vr (og1 Z))) :: []) rfl rfl ?_
      refine W.front 17 (D' := (a25, true, oArrayList (vi 0) (vr (og1 Z))) :: (a23, false, oString (vr a24) (vi 0)) :: (a24, false, ar "" .byte [(vi 120)]) :: (a21, false, oString (vr a22) (vi 0)) :: (a22, false, ar "" .byte [(vi 120)]) :: (a19, false, oString (vr a20) (vi 0)) :: (a20, false, ar "" .byte []) :: (a17, true, ar "[C" .char [(vi g3), (vi g4), (vi g5)]) :: (a2, true, ar "[C" .char [(vi g3), (vi g4), (vi g5)]) :: (a6, true, ar "[C" .char [(vi g7), (vi g8), (vi g9)]) :: (a128, true, oStringBuilder (vr a129) (vi 1) (vi ((0 : Int32) + g13)) (vi 0)) :: (a129, true, ar "[B" .byte (lm gl132)) :: (a143, true, oString (vr a144) (vi 1)) :: (a144, true, ar "[B" .byte (lm (cpl gl132 (0 : Int32).toInt.toNat (List.replicate (((0 : Int32) + g13) <<< ((1 : Int32) &&& 31)).toInt.toNat (0 : Int32)) (0 : Int32).toInt.toNat (((0 : Int32) + g13) <<< ((1 : Int32) &&& 31)).toInt.toNat))) :: (a18, true, oXmlElement (vr a26) (vr a19) (vr a21) (vr a23) (vi 1) .null (vr a25) (vr a128)) :: (a27, false, oString (vr a28) (vi 0)) :: (a28, false, ar "" .byte []) :: (a26, true, oArrayList (vi 0) (vr (og1 Z))) :: []) rfl rfl ?_
      refine W.front 14 (D' := (a18, true, oXmlElement (vr a26) (vr a19) (vr a21) (vr a23) (vi 1) .null (vr a25) (vr a128)) :: (a25, true, oArrayList (vi 0) (vr (og1 Z))) :: (a23, false, oString (vr a24) (vi 0)) :: (a24, false, ar "" .byte [(vi 120)]) :: (a21, false, oString (vr a22) (vi 0)) :: (a22, false, ar "" .byte [(vi 120)]) :: (a19, false, oString (vr a20) (vi 0)) :: (a20, false, ar "" .byte []) :: (a17, true, ar "[C" .char [(vi g3), (vi g4), (vi g5)]) :: (a2, true, ar "[C" .char [(vi g3), (vi g4), (vi g5)]) :: (a6, true, ar "[C" .char [(vi g7), (vi g8), (vi g9)]) :: (a128, true, oStringBuilder (vr a129) (vi 1) (vi ((0 : Int32) + g13)) (vi 0)) :: (a129, true, ar "[B" .byte (lm gl132)) :: (a143, true, oString (vr a144) (vi 1)) :: (a144, true, ar "[B" .byte (lm (cpl gl132 (0 : Int32).toInt.toNat (List.replicate (((0 : Int32) + g13) <<< ((1 : Int32) &&& 31)).toInt.toNat (0 : Int32)) (0 : Int32).toInt.toNat (((0 : Int32) + g13) <<< ((1 : Int32) &&& 31)).toInt.toNat))) :: (a27, false, oString (vr a28) (vi 0)) :: (a28, false, ar "" .byte []) :: (a26, true, oArrayList (vi 0) (vr (og1 Z))) :: []) rfl rfl ?_
      refine W.front 17 (D' := (a26, true, oArrayList (vi 0) (vr (og1 Z))) :: (a18, true, oXmlElement (vr a26) (vr a19) (vr a21) (vr a23) (vi 1) .null (vr a25) (vr a128)) :: (a25, true, oArrayList (vi 0) (vr (og1 Z))) :: (a23, false, oString (vr a24) (vi 0)) :: (a24, false, ar "" .byte [(vi 120)]) :: (a21, false, oString (vr a22) (vi 0)) :: (a22, false, ar "" .byte [(vi 120)]) :: (a19, false, oString (vr a20) (vi 0)) :: (a20, false, ar "" .byte []) :: (a17, true, ar "[C" .char [(vi g3), (vi g4), (vi g5)]) :: (a2, true, ar "[C" .char [(vi g3), (vi g4), (vi g5)]) :: (a6, true, ar "[C" .char [(vi g7), (vi g8), (vi g9)]) :: (a128, true, oStringBuilder (vr a129) (vi 1) (vi ((0 : Int32) + g13)) (vi 0)) :: (a129, true, ar "[B" .byte (lm gl132)) :: (a143, true, oString (vr a144) (vi 1)) :: (a144, true, ar "[B" .byte (lm (cpl gl132 (0 : Int32).toInt.toNat (List.replicate (((0 : Int32) + g13) <<< ((1 : Int32) &&& 31)).toInt.toNat (0 : Int32)) (0 : Int32).toInt.toNat (((0 : Int32) + g13) <<< ((1 : Int32) &&& 31)).toInt.toNat))) :: (a27, false, oString (vr a28) (vi 0)) :: (a28, false, ar "" .byte []) :: []) rfl rfl ?_
      refine W.front 17 (D' := (a28, false, ar "" .byte []) :: (a26, true, oArrayList (vi 0) (vr (og1 Z))) :: (a18, true, oXmlElement (vr a26) (vr a19) (vr a21) (vr a23) (vi 1) .null (vr a25) (vr a128)) :: (a25, true, oArrayList (vi 0) (vr (og1 Z))) :: (a23, false, oString (vr a24) (vi 0)) :: (a24, false, ar "" .byte [(vi 120)]) :: (a21, false, oString (vr a22) (vi 0)) :: (a22, false, ar "" .byte [(vi 120)]) :: (a19, false, oString (vr a20) (vi 0)) :: (a20, false, ar "" .byte []) :: (a17, true, ar "[C" .char [(vi g3), (vi g4), (vi g5)]) :: (a2, true, ar "[C" .char [(vi g3), (vi g4), (vi g5)]) :: (a6, true, ar "[C" .char [(vi g7), (vi g8), (vi g9)]) :: (a128, true, oStringBuilder (vr a129) (vi 1) (vi ((0 : Int32) + g13)) (vi 0)) :: (a129, true, ar "[B" .byte (lm gl132)) :: (a143, true, oString (vr a144) (vi 1)) :: (a144, true, ar "[B" .byte (lm (cpl gl132 (0 : Int32).toInt.toNat (List.replicate (((0 : Int32) + g13) <<< ((1 : Int32) &&& 31)).toInt.toNat (0 : Int32)) (0 : Int32).toInt.toNat (((0 : Int32) + g13) <<< ((1 : Int32) &&& 31)).toInt.toNat))) :: (a27, false, oString (vr a28) (vi 0)) :: []) rfl rfl ?_
      refine W.front 17 (D' := (a27, false, oString (vr a28) (vi 0)) :: (a28, false, ar "" .byte []) :: (a26, true, oArrayList (vi 0) (vr (og1 Z))) :: (a18, true, oXmlElement (vr a26) (vr a19) (vr a21) (vr a23) (vi 1) .null (vr a25) (vr a128)) :: (a25, true, oArrayList (vi 0) (vr (og1 Z))) :: (a23, false, oString (vr a24) (vi 0)) :: (a24, false, ar "" .byte [(vi 120)]) :: (a21, false, oString (vr a22) (vi 0)) :: (a22, false, ar "" .byte [(vi 120)]) :: (a19, false, oString (vr a20) (vi 0)) :: (a20, false, ar "" .byte []) :: (a17, true, ar "[C" .char [(vi g3), (vi g4), (vi g5)]) :: (a2, true, ar "[C" .char [(vi g3), (vi g4), (vi g5)]) :: (a6, true, ar "[C" .char [(vi g7), (vi g8), (vi g9)]) :: (a128, true, oStringBuilder (vr a129) (vi 1) (vi ((0 : Int32) + g13)) (vi 0)) :: (a129, true, ar "[B" .byte (lm gl132)) :: (a143, true, oString (vr a144) (vi 1)) :: (a144, true, ar "[B" .byte (lm (cpl gl132 (0 : Int32).toInt.toNat (List.replicate (((0 : Int32) + g13) <<< ((1 : Int32) &&& 31)).toInt.toNat (0 : Int32)) (0 : Int32).toInt.toNat (((0 : Int32) + g13) <<< ((1 : Int32) &&& 31)).toInt.toNat))) :: []) rfl rfl ?_
      have hv147 := app_in0 hp133
      exact W.mono (by decide) (by decide) (K96 a128 a129 (g130 <<< ((1 : Int32) &&& 31)) gl132 a143 a144 (((0 : Int32) + g13) <<< ((1 : Int32) &&& 31)) (cpl gl132 (0 : Int32).toInt.toNat (List.replicate (((0 : Int32) + g13) <<< ((1 : Int32) &&& 31)).toInt.toNat (0 : Int32)) (0 : Int32).toInt.toNat (((0 : Int32) + g13) <<< ((1 : Int32) &&& 31)).toInt.toNat) (by have := q1; have := ashl_1 g130; have := q0; have := a_add (0 : Int32) g13; have := ashl_1 ((0 : Int32) + g13); have := a_add g12 g13; have := q3; omega) hgl132 (by have := q0; have := a_add (0 : Int32) g13; have := q1; have := ashl_1 ((0 : Int32) + g13); have := a_add g12 g13; have := q3; have := ashl_1 g130; omega) hl145 (by have := q0; have := a_add (0 : Int32) g13; have := q1; have := ashl_1 ((0 : Int32) + g13); have := ashl_1 g13; have := a_add g12 g13; have := q3; have := ashl_1 g130; omega) (by have := q0; have := a_add (0 : Int32) g13; have := q1; have := ashl_1 g130; have := ashr_1 (g130 <<< ((1 : Int32) &&& 31)); have := a_add g12 g13; have := q3; have := ashl_1 ((0 : Int32) + g13); omega) (fun i hi => (dc_cplI (by have := q0; have := a_add (0 : Int32) g13; have := q1; have := ashl_1 g130; have := ashl_1 ((0 : Int32) + g13); have := a_add g13 g15; have := ashr_1 (g130 <<< ((1 : Int32) &&& 31)); have := a_add g12 g13; have := q3; have := a_add g14 g15; omega) (by have := hgl132; have := q0; have := a_add (0 : Int32) g13; have := q1; have := ashl_1 g130; have := ashl_1 ((0 : Int32) + g13); have := a_add g13 g15; have := ashr_1 (g130 <<< ((1 : Int32) &&& 31)); have := a_add g12 g13; have := q3; have := a_add g14 g15; omega) (by have := len_rep (z := (((0 : Int32) + g13) <<< ((1 : Int32) &&& 31))) (by have := q0; have := a_add (0 : Int32) g13; have := q1; have := ashl_1 g130; have := ashl_1 ((0 : Int32) + g13); have := a_add g13 g15; have := ashr_1 (g130 <<< ((1 : Int32) &&& 31)); have := a_add g12 g13; have := q3; have := a_add g14 g15; omega); have := q0; have := a_add (0 : Int32) g13; have := q1; have := ashl_1 g130; have := ashl_1 ((0 : Int32) + g13); have := a_add g13 g15; have := ashr_1 (g130 <<< ((1 : Int32) &&& 31)); have := a_add g12 g13; have := q3; have := a_add g14 g15; omega)).trans (hv147 i hi)) hv147)
   refine W.iloadN at_49 rfl ?_
   refine W.ldcI at_50 (wq hw 1 rfl) ?_
   refine W.iand at_52 ?_
   refine W.iconst (4) at_53 (by decide) ?_
   refine W.irem at_54 (by decide) ?_
   refine W.istore (ls' := #[iv z0, iv z1, iv z2, iv z3, iv z4, rv a2, rv a6, iv ((z3 &&& (2147483647 : Int32)) % (4 : Int32)), uu, uu, uu, uu, uu, uu, uu, uu]) at_55 rfl ?_
   refine W.iloadN at_57 rfl ?_
   refine W.bipush (8) at_58 (by decide) ?_
   refine W.iushr at_60 ?_
   refine W.iconst (4) at_61 (by decide) ?_
   refine W.iload at_62 rfl ?_
   refine W.isub at_64 ?_
   refine W.irem at_65 (fun e => by have := i_eq e; have := q4; have := rng32 z3; have := q2147483647; have := am_2147483647 z3; have := arem_4 (z3 &&& (2147483647 : Int32)); have := a_sub (4 : Int32) ((z3 &&& (2147483647 : Int32)) % (4 : Int32)); have := q0; omega) ?_
   have ih16 := ((c_iremV (XT.ushr z3 (8 : Int32)) ((4 : Int32) - ((z3 &&& (2147483647 : Int32)) % (4 : Int32)))).1 (by have := rng32 z3; have := q8; have := aushr_8 z3; omega) (by have := q4; have := rng32 z3; have := q2147483647; have := am_2147483647 z3; have := arem_4 (z3 &&& (2147483647 : Int32)); have := a_sub (4 : Int32) ((z3 &&& (2147483647 : Int32)) % (4 : Int32)); omega)).2.1
   refine W.istore (ls' := #[iv z0, iv z1, iv z2, iv z3, iv z4, rv a2, rv a6, iv ((z3 &&& (2147483647 : Int32)) % (4 : Int32)), iv ((XT.ushr z3 (8 : Int32)) % ((4 : Int32) - ((z3 &&& (2147483647 : Int32)) % (4 : Int32)))), uu, uu, uu, uu, uu, uu, uu]) at_66 rfl ?_
   refine W.iload at_68 rfl ?_
   refine W.ldcI at_70 (wq hw 1 rfl) ?_
   refine W.iand at_72 ?_
   refine W.iconst (4) at_73 (by decide) ?_
   refine W.irem at_74 (by decide) ?_
   refine W.istore (ls' := #[iv z0, iv z1, iv z2, iv z3, iv z4, rv a2, rv a6, iv ((z3 &&& (2147483647 : Int32)) % (4 : Int32)), iv ((XT.ushr z3 (8 : Int32)) % ((4 : Int32) - ((z3 &&& (2147483647 : Int32)) % (4 : Int32)))), iv ((z4 &&& (2147483647 : Int32)) % (4 : Int32)), uu, uu, uu, uu, uu, uu]) at_75 rfl ?_
   refine W.iload at_77 rfl ?_
   refine W.bipush (8) at_79 (by decide) ?_
   refine W.iushr at_81 ?_
   refine W.iconst (4) at_82 (by decide) ?_
   refine W.iload at_83 rfl ?_
   refine W.isub at_85 ?_
   refine W.irem at_86 (fun e => by have := i_eq e; have := q4; have := rng32 z4; have := q2147483647; have := am_2147483647 z4; have := arem_4 (z4 &&& (2147483647 : Int32)); have := a_sub (4 : Int32) ((z4 &&& (2147483647 : Int32)) % (4 : Int32)); have := q0; omega) ?_
   have ih17 := ((c_iremV (XT.ushr z4 (8 : Int32)) ((4 : Int32) - ((z4 &&& (2147483647 : Int32)) % (4 : Int32)))).1 (by have := rng32 z4; have := q8; have := aushr_8 z4; omega) (by have := q4; have := rng32 z4; have := q2147483647; have := am_2147483647 z4; have := arem_4 (z4 &&& (2147483647 : Int32)); have := a_sub (4 : Int32) ((z4 &&& (2147483647 : Int32)) % (4 : Int32)); omega)).2.1
   refine W.istore (ls' := #[iv z0, iv z1, iv z2, iv z3, iv z4, rv a2, rv a6, iv ((z3 &&& (2147483647 : Int32)) % (4 : Int32)), iv ((XT.ushr z3 (8 : Int32)) % ((4 : Int32) - ((z3 &&& (2147483647 : Int32)) % (4 : Int32)))), iv ((z4 &&& (2147483647 : Int32)) % (4 : Int32)), iv ((XT.ushr z4 (8 : Int32)) % ((4 : Int32) - ((z4 &&& (2147483647 : Int32)) % (4 : Int32)))), uu, uu, uu, uu, uu]) at_87 rfl ?_
   exact W.mono (by decide) (by decide) (K16 ((z3 &&& (2147483647 : Int32)) % (4 : Int32)) ((XT.ushr z3 (8 : Int32)) % ((4 : Int32) - ((z3 &&& (2147483647 : Int32)) % (4 : Int32)))) ((z4 &&& (2147483647 : Int32)) % (4 : Int32)) ((XT.ushr z4 (8 : Int32)) % ((4 : Int32) - ((z4 &&& (2147483647 : Int32)) % (4 : Int32)))) (by have := rng32 z3; have := q2147483647; have := am_2147483647 z3; have := q4; have := arem_4 (z3 &&& (2147483647 : Int32)); have := q8; have := aushr_8 z3; have := a_sub (4 : Int32) ((z3 &&& (2147483647 : Int32)) % (4 : Int32)); have := c_iremV (XT.ushr z3 (8 : Int32)) ((4 : Int32) - ((z3 &&& (2147483647 : Int32)) % (4 : Int32))); omega) (by have := rng32 z3; have := q8; have := aushr_8 z3; have := q4; have := q2147483647; have := am_2147483647 z3; have := arem_4 (z3 &&& (2147483647 : Int32)); have := a_sub (4 : Int32) ((z3 &&& (2147483647 : Int32)) % (4 : Int32)); have := c_iremV (XT.ushr z3 (8 : Int32)) ((4 : Int32) - ((z3 &&& (2147483647 : Int32)) % (4 : Int32))); omega) (by have := rng32 z4; have := q2147483647; have := am_2147483647 z4; have := q4; have := arem_4 (z4 &&& (2147483647 : Int32)); have := q8; have := aushr_8 z4; have := a_sub (4 : Int32) ((z4 &&& (2147483647 : Int32)) % (4 : Int32)); have := c_iremV (XT.ushr z4 (8 : Int32)) ((4 : Int32) - ((z4 &&& (2147483647 : Int32)) % (4 : Int32))); omega) (by have := rng32 z4; have := q8; have := aushr_8 z4; have := q4; have := q2147483647; have := am_2147483647 z4; have := arem_4 (z4 &&& (2147483647 : Int32)); have := a_sub (4 : Int32) ((z4 &&& (2147483647 : Int32)) % (4 : Int32)); have := c_iremV (XT.ushr z4 (8 : Int32)) ((4 : Int32) - ((z4 &&& (2147483647 : Int32)) % (4 : Int32))); omega) (by have := rng32 z3; have := q2147483647; have := am_2147483647 z3; have := q4; have := arem_4 (z3 &&& (2147483647 : Int32)); have := q8; have := aushr_8 z3; have := a_sub (4 : Int32) ((z3 &&& (2147483647 : Int32)) % (4 : Int32)); have := c_iremV (XT.ushr z3 (8 : Int32)) ((4 : Int32) - ((z3 &&& (2147483647 : Int32)) % (4 : Int32))); have := a_add ((z3 &&& (2147483647 : Int32)) % (4 : Int32)) ((XT.ushr z3 (8 : Int32)) % ((4 : Int32) - ((z3 &&& (2147483647 : Int32)) % (4 : Int32)))); have := q3; omega) (by have := rng32 z4; have := q2147483647; have := am_2147483647 z4; have := q4; have := arem_4 (z4 &&& (2147483647 : Int32)); have := q8; have := aushr_8 z4; have := a_sub (4 : Int32) ((z4 &&& (2147483647 : Int32)) % (4 : Int32)); have := c_iremV (XT.ushr z4 (8 : Int32)) ((4 : Int32) - ((z4 &&& (2147483647 : Int32)) % (4 : Int32))); have := a_add ((z4 &&& (2147483647 : Int32)) % (4 : Int32)) ((XT.ushr z4 (8 : Int32)) % ((4 : Int32) - ((z4 &&& (2147483647 : Int32)) % (4 : Int32)))); have := q3; omega))
  refine W.iconst (3) at_0 (by decide) ?_
  refine W.newarr 3 (ad := "[C") (ty := .char) at_1 rfl (wq hw 0 rfl) ix3 rfl (by decide) (by decide) (fun a148 => ?_)
  show W _ _ _ _ _ _ _ _ _ _ _ _ 3 _ [(vr a148)]
  refine W.dup at_3 rfl ?_
  refine W.iconst (0) at_4 (by decide) ?_
  refine W.iloadN at_5 rfl ?_
  refine W.i2c at_6 ?_
  refine W.castore (D' := (a148, true, ar "[C" .char [(vi z0.toUInt32.toUInt16.toUInt32.toInt32), (vi 0), (vi 0)]) :: []) 0 0 at_7 rfl ix0 (Nat.le_of_ble_eq_true rfl) (z_narC (by have := rng32 z0; have := a_i2c z0; omega)) rfl ?_
  refine W.dup at_8 rfl ?_
  refine W.iconst (1) at_9 (by decide) ?_
  refine W.iloadN at_10 rfl ?_
  refine W.bipush (16) at_11 (by decide) ?_
  refine W.iushr at_13 ?_
  refine W.i2cK (XT.ushr z0 (16 : Int32)) at_14 (z_i2c (by have := rng32 z0; have := q16; have := aushr_16 z0; omega)) ?_
  refine W.castore (D' := (a148, true, ar "[C" .char [(vi z0.toUInt32.toUInt16.toUInt32.toInt32), (vi (XT.ushr z0 (16 : Int32))), (vi 0)]) :: []) 0 1 at_15 rfl ix1 (Nat.le_of_ble_eq_true rfl) (z_narC (by have := rng32 z0; have := q16; have := aushr_16 z0; omega)) rfl ?_
  refine W.dup at_16 rfl ?_
  refine W.iconst (2) at_17 (by decide) ?_
  refine W.iloadN at_18 rfl ?_
  refine W.i2c at_19 ?_
  refine W.castore (D' := (a148, true, ar "[C" .char [(vi z0.toUInt32.toUInt16.toUInt32.toInt32), (vi (XT.ushr z0 (16 : Int32))), (vi z1.toUInt32.toUInt16.toUInt32.toInt32)]) :: []) 0 2 at_20 rfl ix2 (Nat.le_of_ble_eq_true rfl) (z_narC (by have := rng32 z1; have := a_i2c z1; omega)) rfl ?_
  refine W.astore (ls' := #[iv z0, iv z1, iv z2, iv z3, iv z4, rv a148, uu, uu, uu, uu, uu, uu, uu, uu, uu, uu]) at_21 rfl rfl ?_
  refine W.iconst (3) at_23 (by decide) ?_
  refine W.newarr 3 (ad := "[C") (ty := .char) at_24 rfl (wq hw 0 rfl) ix3 rfl (by decide) (by decide) (fun a149 => ?_)
  show W _ _ _ _ _ _ _ _ _ _ _ _ 26 _ [(vr a149)]
  refine W.dup at_26 rfl ?_
  refine W.iconst (0) at_27 (by decide) ?_
  refine W.iloadN at_28 rfl ?_
  refine W.bipush (16) at_29 (by decide) ?_
  refine W.iushr at_31 ?_
  refine W.i2cK (XT.ushr z1 (16 : Int32)) at_32 (z_i2c (by have := rng32 z1; have := q16; have := aushr_16 z1; omega)) ?_
  refine W.castore (D' := (a149, true, ar "[C" .char [(vi (XT.ushr z1 (16 : Int32))), (vi 0), (vi 0)]) :: (a148, true, ar "[C" .char [(vi z0.toUInt32.toUInt16.toUInt32.toInt32), (vi (XT.ushr z0 (16 : Int32))), (vi z1.toUInt32.toUInt16.toUInt32.toInt32)]) :: []) 0 0 at_33 rfl ix0 (Nat.le_of_ble_eq_true rfl) (z_narC (by have := rng32 z1; have := q16; have := aushr_16 z1; omega)) rfl ?_
  refine W.dup at_34 rfl ?_
  refine W.iconst (1) at_35 (by decide) ?_
  refine W.iloadN at_36 rfl ?_
  refine W.i2c at_37 ?_
  refine W.castore (D' := (a149, true, ar "[C" .char [(vi (XT.ushr z1 (16 : Int32))), (vi z2.toUInt32.toUInt16.toUInt32.toInt32), (vi 0)]) :: (a148, true, ar "[C" .char [(vi z0.toUInt32.toUInt16.toUInt32.toInt32), (vi (XT.ushr z0 (16 : Int32))), (vi z1.toUInt32.toUInt16.toUInt32.toInt32)]) :: []) 0 1 at_38 rfl ix1 (Nat.le_of_ble_eq_true rfl) (z_narC (by have := rng32 z2; have := a_i2c z2; omega)) rfl ?_
  refine W.dup at_39 rfl ?_
  refine W.iconst (2) at_40 (by decide) ?_
  refine W.iloadN at_41 rfl ?_
  refine W.bipush (16) at_42 (by decide) ?_
  refine W.iushr at_44 ?_
  refine W.i2cK (XT.ushr z2 (16 : Int32)) at_45 (z_i2c (by have := rng32 z2; have := q16; have := aushr_16 z2; omega)) ?_
  refine W.castore (D' := (a149, true, ar "[C" .char [(vi (XT.ushr z1 (16 : Int32))), (vi z2.toUInt32.toUInt16.toUInt32.toInt32), (vi (XT.ushr z2 (16 : Int32)))]) :: (a148, true, ar "[C" .char [(vi z0.toUInt32.toUInt16.toUInt32.toInt32), (vi (XT.ushr z0 (16 : Int32))), (vi z1.toUInt32.toUInt16.toUInt32.toInt32)]) :: []) 0 2 at_46 rfl ix2 (Nat.le_of_ble_eq_true rfl) (z_narC (by have := rng32 z2; have := q16; have := aushr_16 z2; omega)) rfl ?_
  refine W.astore (ls' := #[iv z0, iv z1, iv z2, iv z3, iv z4, rv a148, rv a149, uu, uu, uu, uu, uu, uu, uu, uu, uu]) at_47 rfl rfl ?_
  refine W.front 1 (D' := (a148, true, ar "[C" .char [(vi z0.toUInt32.toUInt16.toUInt32.toInt32), (vi (XT.ushr z0 (16 : Int32))), (vi z1.toUInt32.toUInt16.toUInt32.toInt32)]) :: (a149, true, ar "[C" .char [(vi (XT.ushr z1 (16 : Int32))), (vi z2.toUInt32.toUInt16.toUInt32.toInt32), (vi (XT.ushr z2 (16 : Int32)))]) :: []) rfl rfl ?_
  exact W.mono (by decide) (by decide) (K10 a148 z0.toUInt32.toUInt16.toUInt32.toInt32 (XT.ushr z0 (16 : Int32)) z1.toUInt32.toUInt16.toUInt32.toInt32 a149 (XT.ushr z1 (16 : Int32)) z2.toUInt32.toUInt16.toUInt32.toInt32 (XT.ushr z2 (16 : Int32)) (by have := rng32 z0; have := a_i2c z0; omega) (by have := rng32 z0; have := q16; have := aushr_16 z0; omega) (by have := rng32 z1; have := a_i2c z1; omega) (by have := rng32 z1; have := q16; have := aushr_16 z1; omega) (by have := rng32 z2; have := a_i2c z2; omega) (by have := rng32 z2; have := q16; have := aushr_16 z2; omega))
set_option maxRecDepth 65536 in
set_option maxHeartbeats 4000000 in
theorem comes_1 {Post : Tables → Env → Array Value → State → Outcome → State → Prop} (hpost : ∀ tb e args s v u, (limb_1_1.after args s (.returned v) u = true ∧ limb_1_2.after args s (.returned v) u = true ∧ True) → Jvm.D.FramedW s (.returned v) u (Jvm.fieldLocs frame_1_writes args s ++ Jvm.arrayLocs frame_1_arrays args s ++ Jvm.staticLocs frame_1_statics s) 48 3328 → Post tb e args s (.returned v) u) :
    ArmFor flags0 classFile x code maxLocals ret World_1 tables_1 room_1 Calls_1 rest_1 Pre_1 Post := by
  intro l hfl _ _ p e ha hc hk s m args below hf hA hF happ hP
  obtain ⟨hcalls, hrest, hpre⟩ := hP
  obtain ⟨-, -, -, hnamed, -, -, -, hat⟩ := (Spec.applies_iff hf).mp happ
  obtain ⟨hg, hn⟩ := and_e (Cond.before_iff.mp (show (Jvm.Cond.and given_1 narrow_1).before args s = true from hpre))
  obtain ⟨hcount, g0⟩ := and_e hg
  obtain ⟨w0, w1, w2, w3, w4, rfl⟩ : ∃ w0 w1 w2 w3 w4 : Value, args = #[w0, w1, w2, w3, w4] := by
    have hs : args.size = 5 := by simpa [Cond.value, given_1] using hcount
    obtain ⟨L⟩ := args
    match L, hs with
    | [w0, w1, w2, w3, w4], _ => exact ⟨w0, w1, w2, w3, w4, rfl⟩
  have hw := fun d (hd : d ∈ tables_1) => atoms_spec (ws := Jvm.Cond.code x code maxLocals ret :: tables_1) hat d (List.mem_cons_of_mem _ hd)
  have hsets := (atoms_of jdkStatics_1 (show (jdkStatics_1.foldr Jvm.Cond.and restOwn_1).before _ s = true from by rw [← rest_1_c_eq]; exact hrest)).1
  obtain ⟨k0, g1⟩ := and_e g0
  obtain ⟨k1, g2⟩ := and_e g1
  obtain ⟨k2, g3⟩ := and_e g2
  obtain ⟨k3, g4⟩ := and_e g3
  have k4 := g4
  obtain ⟨z0, y0⟩ := is_v k0
  obtain rfl : w0 = (.int z0) := Option.some.inj y0
  obtain ⟨z1, y1⟩ := is_v k1
  obtain rfl : w1 = (.int z1) := Option.some.inj y1
  obtain ⟨z2, y2⟩ := is_v k2
  obtain rfl : w2 = (.int z2) := Option.some.inj y2
  obtain ⟨z3, y3⟩ := is_v k3
  obtain rfl : w3 = (.int z3) := Option.some.inj y3
  obtain ⟨z4, y4⟩ := is_v k4
  obtain rfl : w4 = (.int z4) := Option.some.inj y4
  have n0 := hn
  have hSF : SF s := ⟨sf_int (hsets _ (List.mem_of_getElem? (i := 9) rfl)) (hsets _ (List.mem_of_getElem? (i := 10) rfl)), sf_nz (hsets _ (List.mem_of_getElem? (i := 10) rfl)) (hsets _ (List.mem_of_getElem? (i := 11) rfl)), sf_isref (hsets _ (List.mem_of_getElem? (i := 17) rfl)), sf_ref (hsets _ (List.mem_of_getElem? (i := 16) rfl)) (hsets _ (List.mem_of_getElem? (i := 17) rfl)), sf_isref (Cond.isRef_static_of_fit (t := (.object "java/util/function/BiFunction")) hF (by decide +kernel) rfl (wq hw 116 rfl)), sf_ref2 (wq hw 115 rfl) (wq hw 116 rfl) (Cond.isRef_static_of_fit (t := (.object "java/util/function/BiFunction")) hF (by decide +kernel) rfl (wq hw 116 rfl)), sf_const (hsets _ (List.mem_of_getElem? (i := 20) rfl)) (hsets _ (List.mem_of_getElem? (i := 21) rfl)), sf_const (hsets _ (List.mem_of_getElem? (i := 23) rfl)) (hsets _ (List.mem_of_getElem? (i := 24) rfl)), sf_const (hsets _ (List.mem_of_getElem? (i := 26) rfl)) (hsets _ (List.mem_of_getElem? (i := 27) rfl)), t_sta (Or.inr ⟨(wq hw 16 rfl), (hsets _ (List.mem_of_getElem? (i := 2) rfl))⟩) (exa_v (Cond.before_iff.mp (hsets _ (List.mem_of_getElem? (i := 7) rfl)))), trivial⟩
  have hE : EW s _ EL.2 := (EW.cons (wq hw 67 rfl) (by decide) (EW.cons (wq hw 5 rfl) (by decide) (EW.cons (wq hw 13 rfl) (by decide) EW.nil)))
  have hCH : CHv s EL.2 s.vm s.heap := CHv.start hE (fun q hq => hcalls.1 q hq) (hsets _ (List.mem_of_getElem? (i := 11) rfl)) (wq hw 8 rfl) (wq hw 7 rfl)
  have hHp := Hp.start hCH
  obtain ⟨nn, o, q1, q2, q3, v, L, rfl, N, ⟨D', -, rfl⟩, hq, hWH⟩ := lawW (Z := s) hw hSF z0 z1 z2 z3 z4 ⟨⟨_, hE⟩, by decide⟩ l tables_1 p e ha hc hk s m _ below hf ((Spec.applies_iff_loose hf).mp happ).1 ⟨rfl, State.Warmed39.refl s, hHp⟩ trivial
  exact ⟨nn, _, q1, q2, q3, hpost _ _ _ _ _ _ ⟨Cond.after_iff.mpr rfl, Cond.after_iff.mpr (eq_i res_at (Term.int_eval (1)) rfl), trivial⟩ ⟨hq.1, hq.2.1, hq.2.2.1, (hq.2.2.2.sift fun y hy => Or.inr (N y hy)).mono (by decide) (by decide)⟩⟩
theorem main_1_1 : Claimed_1_1 := comes_1 fun _ _ _ _ _ _ h hF => ⟨h.1, hF⟩
theorem main_1_2 : Claimed_1_2 := comes_1 fun _ _ _ _ _ _ h hF => ⟨h.2.1, hF⟩
end Jvm.Pilot.@@N@@
namespace Jvm.Pilot.@@N@@
open Jvm Jvm.ClassFile Sem Op Lib Jvm.Free Jvm.Stand Jvm.Pilot.@@N@@.Jvm.D
/-! MADE BY PROGRAM (witnessworld.py) out of the Statement's table words and the real class files: 33 classes; the members and pool entries that the words name. The judged class is class 1, her method 1. -/
namespace start1
open Jvm.ClassFile
def u (s : String) : CpInfo := .utf8 (stringToUtf16 s)
/-- a pool by its gaps: so many unusable entries, then the entry; so many at the end -/
def gap : Nat → List CpInfo → List CpInfo
  | 0, r => r
  | n + 1, r => .unusable :: gap n r
def poolList (es : List (Nat × CpInfo)) (last : Nat) : List CpInfo := es.foldr (fun e r => gap e.1 (e.2 :: r)) (gap last [])
def pool (es : List (Nat × CpInfo)) (last : Nat) : Array CpInfo := ⟨poolList es last⟩
def fileOf (pool : Array CpInfo) (this : Nat) (attrs : Array Attribute := #[]) (ms : Array MethodInfo := #[]) (fl : Nat := 33) (sup : Nat := 0) (ifs : Array Nat := #[]) (fds : Array FieldInfo := #[]) : ClassFile where
  minorVersion := 0
  majorVersion := 65
  constantPool := pool
  accessFlags := fl
  thisClass := this
  superClass := sup
  interfaces := ifs
  fields := fds
  methods := ms
  attributes := attrs
def plain (name : String) (sup : Option ClassId) : Class where
  name := name
  kind := .ordinary
  loader := none
  accessFlags := 33
  super := sup
  interfaces := #[]
  cf := none
  fields := #[]
  methods := #[]
  instanceTypes := #[]
  staticTypes := #[]
  resolved := #[]
  callSites := []
  init := .initialized
  statics := none
  mirror := none

def pool0 : Array CpInfo := pool [(5, u "<init>"), (0, u "()V"), (1, .class_ 10), (1, u "java/lang/Object"), (85, u "clone"), (0, u "()Ljava/lang/Object;")] 26

def k0c0 : Code := { maxStack := 0, maxLocals := 1, code := object_method_1_code, exceptionTable := #[], attributes := #[] }
def k0m0 : Method := { name := "<init>", desc := "()V", sig := { parameters := [], returnType := none }, accessFlags := 1, code := some k0c0 }
def k0m1 : Method := { name := "clone", desc := "()Ljava/lang/Object;", sig := { parameters := [], returnType := some (.object "java/lang/Object") }, accessFlags := 260, code := none }
/-- java/lang/Object -/
def k0 : Class := { plain "java/lang/Object" none with
  accessFlags := 33
  interfaces := #[]
  cf := some (fileOf pool0 8 #[] #[{ accessFlags := 1, nameIndex := 5, descriptorIndex := 6, attributes := #[] }, { accessFlags := 260, nameIndex := 96, descriptorIndex := 97, attributes := #[] }] 33 0 #[] #[])
  fields := #[]
  methods := #[k0m0, k0m1]
  instanceTypes := #[]
  staticTypes := #[]
  resolved := Array.replicate 124 none
  statics := none }

def pool1 : Array CpInfo := pool [(2, .class_ 4), (0, .nameAndType 5 6), (0, u "java/lang/Object"), (0, u "<init>"), (0, u "()V"), (0, .integer 2147483647), (0, .class_ 9), (0, u "com/example/montaje/montaje/xml/XmlElement"), (0, .string 11), (0, u ""), (0, .string 13), (0, u "x"), (0, .class_ 15), (0, u "java/util/ArrayList"), (0, .methodref 14 3), (0, .methodref 8 18), (0, .nameAndType 5 19), (0, u "(Ljava/lang/String;Ljava/lang/String;Ljava/lang/String;ILjava/util/Map;Ljava/util/List;)V"), (0, .methodref 8 21), (0, .nameAndType 22 23), (0, u "text"), (0, u "()Ljava/lang/String;"), (0, .methodref 25 26), (0, .class_ 27), (0, .nameAndType 28 29), (0, u "java/lang/String"), (0, u "length"), (0, u "()I"), (0, .methodref 8 31), (0, .nameAndType 32 33), (0, u "appendText"), (0, u "([CII)V"), (0, .methodref 35 36), (0, .class_ 37), (0, .nameAndType 38 39), (0, u "com/example/montaje/montaje/xml/XmlElementAppendTextPinLaw"), (0, u "at"), (0, u "(Ljava/lang/String;I[CII[CII)Z"), (0, .methodref 25 41), (0, .nameAndType 42 43), (0, u "charAt"), (0, u "(I)C"), (2, u "law"), (0, u "(IIIII)Z")] 5

def k1m0 : Method := { name := "<init>", desc := "()V", sig := { parameters := [], returnType := none }, accessFlags := 1, code := none }
def k1c1 : Code := { maxStack := 9, maxLocals := 16, code := code, exceptionTable := #[], attributes := #[] }
def k1m1 : Method := { name := "law", desc := "(IIIII)Z", sig := { parameters := [.int, .int, .int, .int, .int], returnType := some .boolean }, accessFlags := 9, code := some k1c1 }
def k1c2 : Code := { maxStack := 3, maxLocals := 9, code := method_3_code, exceptionTable := #[], attributes := #[] }
def k1m2 : Method := { name := "at", desc := "(Ljava/lang/String;I[CII[CII)Z", sig := { parameters := [(.object "java/lang/String"), .int, (.array .char), .int, .int, (.array .char), .int, .int], returnType := some .boolean }, accessFlags := 10, code := some k1c2 }
/-- com/example/montaje/montaje/xml/XmlElementAppendTextPinLaw -/
def k1 : Class := { plain "com/example/montaje/montaje/xml/XmlElementAppendTextPinLaw" (some 0) with
  accessFlags := 49
  interfaces := #[]
  cf := some (fileOf pool1 35 #[] #[{ accessFlags := 1, nameIndex := 5, descriptorIndex := 6, attributes := #[] }, { accessFlags := 9, nameIndex := 46, descriptorIndex := 47, attributes := #[] }, { accessFlags := 10, nameIndex := 38, descriptorIndex := 39, attributes := #[] }] 49 2 #[] #[])
  fields := #[]
  methods := #[k1m0, k1m1, k1m2]
  instanceTypes := #[]
  staticTypes := #[]
  resolved := Array.replicate 53 none
  statics := none }

def pool2 : Array CpInfo := pool [(1, .methodref 2 3), (0, .class_ 4), (0, .nameAndType 5 6), (0, u "java/lang/Object"), (0, u "<init>"), (0, u "()V"), (0, .class_ 8), (0, u "java/util/ArrayList"), (0, .methodref 7 3), (0, .fieldref 11 12), (0, .class_ 13), (0, .nameAndType 14 15), (0, u "com/example/montaje/montaje/xml/XmlElement"), (0, u "children"), (0, u "Ljava/util/List;"), (0, .fieldref 11 17), (0, .nameAndType 18 19), (0, u "namespaceUri"), (0, u "Ljava/lang/String;"), (0, .fieldref 11 21), (0, .nameAndType 22 19), (0, u "localName"), (0, .fieldref 11 24), (0, .nameAndType 25 19), (0, u "qualifiedName"), (0, .fieldref 11 27), (0, .nameAndType 28 29), (0, u "line"), (0, u "I"), (0, .fieldref 11 31), (0, .nameAndType 32 33), (0, u "attributes"), (0, u "Ljava/util/Map;"), (0, .fieldref 11 35), (0, .nameAndType 36 15), (0, u "namespacedAttributes"), (18, .fieldref 11 56), (0, .nameAndType 57 58), (0, u "text"), (0, u "Ljava/lang/StringBuilder;"), (0, .string 60), (0, u ""), (0, .methodref 62 63), (0, .class_ 64), (0, .nameAndType 65 66), (0, u "java/lang/StringBuilder"), (0, u "toString"), (0, u "()Ljava/lang/String;"), (6, .methodref 62 74), (0, .nameAndType 5 75), (0, u "(I)V"), (0, .methodref 62 77), (0, .nameAndType 78 79), (0, u "append"), (0, u "([CII)Ljava/lang/StringBuilder;"), (4, u "(Ljava/lang/String;Ljava/lang/String;Ljava/lang/String;ILjava/util/Map;Ljava/util/List;)V"), (14, u "appendText"), (0, u "([CII)V"), (3, .class_ 105), (0, u "com/example/montaje/montaje/xml/XmlElement$Attribute")] 2

def k2c0 : Code := { maxStack := 3, maxLocals := 7, code := prog_64_method_1_code, exceptionTable := #[], attributes := #[] }
def k2m0 : Method := { name := "<init>", desc := "(Ljava/lang/String;Ljava/lang/String;Ljava/lang/String;ILjava/util/Map;Ljava/util/List;)V", sig := { parameters := [(.object "java/lang/String"), (.object "java/lang/String"), (.object "java/lang/String"), .int, (.object "java/util/Map"), (.object "java/util/List")], returnType := none }, accessFlags := 0, code := some k2c0 }
def k2c1 : Code := { maxStack := 1, maxLocals := 1, code := prog_64_method_10_code, exceptionTable := #[], attributes := #[] }
def k2m1 : Method := { name := "text", desc := "()Ljava/lang/String;", sig := { parameters := [], returnType := some (.object "java/lang/String") }, accessFlags := 0, code := some k2c1 }
def k2c2 : Code := { maxStack := 4, maxLocals := 4, code := prog_64_method_12_code, exceptionTable := #[], attributes := #[] }
def k2m2 : Method := { name := "appendText", desc := "([CII)V", sig := { parameters := [(.array .char), .int, .int], returnType := none }, accessFlags := 0, code := some k2c2 }
/-- com/example/montaje/montaje/xml/XmlElement -/
def k2 : Class := { plain "com/example/montaje/montaje/xml/XmlElement" (some 0) with
  accessFlags := 32
  interfaces := #[]
  cf := some (fileOf pool2 11 #[.nestMembers #[104]] #[{ accessFlags := 0, nameIndex := 5, descriptorIndex := 84, attributes := #[] }, { accessFlags := 0, nameIndex := 57, descriptorIndex := 66, attributes := #[] }, { accessFlags := 0, nameIndex := 99, descriptorIndex := 100, attributes := #[] }] 32 2 #[] #[{ accessFlags := 18, nameIndex := 18, descriptorIndex := 19, attributes := #[] }, { accessFlags := 18, nameIndex := 22, descriptorIndex := 19, attributes := #[] }, { accessFlags := 18, nameIndex := 25, descriptorIndex := 19, attributes := #[] }, { accessFlags := 18, nameIndex := 28, descriptorIndex := 29, attributes := #[] }, { accessFlags := 18, nameIndex := 32, descriptorIndex := 33, attributes := #[] }, { accessFlags := 18, nameIndex := 36, descriptorIndex := 15, attributes := #[] }, { accessFlags := 18, nameIndex := 14, descriptorIndex := 15, attributes := #[] }, { accessFlags := 2, nameIndex := 57, descriptorIndex := 58, attributes := #[] }])
  fields := #[{ name := "namespaceUri", type := (.object "java/lang/String"), accessFlags := 18, slot := 0, constantValue := 0 }, { name := "localName", type := (.object "java/lang/String"), accessFlags := 18, slot := 1, constantValue := 0 }, { name := "qualifiedName", type := (.object "java/lang/String"), accessFlags := 18, slot := 2, constantValue := 0 }, { name := "line", type := .int, accessFlags := 18, slot := 3, constantValue := 0 }, { name := "attributes", type := (.object "java/util/Map"), accessFlags := 18, slot := 4, constantValue := 0 }, { name := "namespacedAttributes", type := (.object "java/util/List"), accessFlags := 18, slot := 5, constantValue := 0 }, { name := "children", type := (.object "java/util/List"), accessFlags := 18, slot := 6, constantValue := 0 }, { name := "text", type := (.object "java/lang/StringBuilder"), accessFlags := 2, slot := 7, constantValue := 0 }]
  methods := #[k2m0, k2m1, k2m2]
  instanceTypes := #[(.object "java/lang/String"), (.object "java/lang/String"), (.object "java/lang/String"), .int, (.object "java/util/Map"), (.object "java/util/List"), (.object "java/util/List"), (.object "java/lang/StringBuilder")]
  staticTypes := #[]
  resolved := Array.replicate 108 none
  statics := none }

def pool3 : Array CpInfo := pool [(1, .class_ 2), (0, u "java/io/Serializable"), (0, .class_ 4), (0, u "java/lang/Object")] 2

/-- java/io/Serializable -/
def k3 : Class := { plain "java/io/Serializable" (some 0) with
  accessFlags := 1537
  interfaces := #[]
  cf := some (fileOf pool3 1 #[] #[] 1537 3 #[] #[])
  fields := #[]
  methods := #[]
  instanceTypes := #[]
  staticTypes := #[]
  resolved := Array.replicate 7 none
  statics := none }

def pool4 : Array CpInfo := pool [(1, .class_ 2), (0, u "java/lang/Comparable"), (0, .class_ 4), (0, u "java/lang/Object")] 7

/-- java/lang/Comparable -/
def k4 : Class := { plain "java/lang/Comparable" (some 0) with
  accessFlags := 1537
  interfaces := #[]
  cf := some (fileOf pool4 1 #[] #[] 1537 3 #[] #[])
  fields := #[]
  methods := #[]
  instanceTypes := #[]
  staticTypes := #[]
  resolved := Array.replicate 12 none
  statics := none }

def pool5 : Array CpInfo := pool [(2, .class_ 4), (1, u "java/lang/CharSequence"), (42, .class_ 48), (0, u "java/lang/CharSequence$1CodePointIterator"), (10, .class_ 60), (0, u "java/lang/CharSequence$1CharIterator"), (5, .class_ 67), (0, u "java/lang/Object")] 63

/-- java/lang/CharSequence -/
def k5 : Class := { plain "java/lang/CharSequence" (some 0) with
  accessFlags := 1537
  interfaces := #[]
  cf := some (fileOf pool5 2 #[.nestMembers #[47, 59]] #[] 1537 66 #[] #[])
  fields := #[]
  methods := #[]
  instanceTypes := #[]
  staticTypes := #[]
  resolved := Array.replicate 131 none
  statics := none }

def pool6 : Array CpInfo := pool [(1, .class_ 2), (0, u "java/lang/constant/Constable"), (0, .class_ 4), (0, u "java/lang/Object")] 6

/-- java/lang/constant/Constable -/
def k6 : Class := { plain "java/lang/constant/Constable" (some 0) with
  accessFlags := 1537
  interfaces := #[]
  cf := some (fileOf pool6 1 #[] #[] 1537 3 #[] #[])
  fields := #[]
  methods := #[]
  instanceTypes := #[]
  staticTypes := #[]
  resolved := Array.replicate 11 none
  statics := none }

def pool7 : Array CpInfo := pool [(1, .class_ 2), (0, u "java/lang/constant/ConstantDesc"), (0, .class_ 4), (0, u "java/lang/Object")] 32

/-- java/lang/constant/ConstantDesc -/
def k7 : Class := { plain "java/lang/constant/ConstantDesc" (some 0) with
  accessFlags := 1537
  interfaces := #[]
  cf := some (fileOf pool7 1 #[] #[] 1537 3 #[] #[])
  fields := #[]
  methods := #[]
  instanceTypes := #[]
  staticTypes := #[]
  resolved := Array.replicate 37 none
  statics := none }

def pool8 : Array CpInfo := pool [(1, .methodref 2 3), (0, .class_ 4), (0, .nameAndType 5 6), (0, u "java/lang/Object"), (0, u "<init>"), (0, u "()V"), (2, .fieldref 10 11), (0, .class_ 12), (0, .nameAndType 13 14), (0, u "java/lang/String"), (0, u "value"), (0, u "[B"), (0, .fieldref 10 16), (0, .nameAndType 17 18), (0, u "coder"), (0, u "B"), (2, u "hash"), (0, u "I"), (2, u "hashIsZero"), (0, u "Z"), (9, u "checkBoundsOffCount"), (0, u "(III)I"), (0, .fieldref 10 39), (0, .nameAndType 40 26), (0, u "COMPACT_STRINGS"), (1, .class_ 44), (1, u "java/lang/StringUTF16"), (9, .methodref 55 56), (0, .class_ 57), (0, .nameAndType 58 59), (0, u "java/util/Arrays"), (0, u "copyOfRange"), (0, u "([BII)[B"), (47, .class_ 109), (1, u "java/lang/StringLatin1"), (32, u "()Z"), (191, u "()I"), (0, .methodref 10 336), (0, .nameAndType 17 337), (0, u "()B"), (2, u "()[B"), (22, u "([BI)C"), (27, u "(II)V"), (35, u "(I)C"), (61, .methodref 10 490), (0, .nameAndType 5 491), (0, u "(Ljava/lang/AbstractStringBuilder;Ljava/lang/Void;)V"), (0, .methodref 10 493), (0, .nameAndType 494 142), (0, u "isLatin1"), (0, .methodref 107 496), (0, .nameAndType 497 363), (0, u "charAt"), (0, .methodref 42 496), (2, u "checkIndex"), (4, .nameAndType 507 334), (0, u "length"), (5, u "checkFromToIndex"), (9, u "checkBoundsBeginEnd"), (0, u "(III)V"), (24, .methodref 550 506), (0, .class_ 551), (0, u "java/lang/AbstractStringBuilder"), (0, .methodref 550 553), (0, .nameAndType 554 340), (0, u "getValue"), (20, .class_ 576), (0, u "java/lang/CharSequence"), (22, u "CASE_INSENSITIVE_ORDER"), (0, u "Ljava/util/Comparator;"), (446, .methodref 550 493), (0, .fieldref 550 1049), (0, .nameAndType 1050 26), (0, u "maybeLatin1"), (2, .fieldref 1054 1055), (0, .class_ 1056), (0, .nameAndType 1057 1058), (0, u "jdk/internal/util/Preconditions"), (0, u "SIOOBE_FORMATTER"), (0, u "Ljava/util/function/BiFunction;"), (0, .methodref 1054 1060), (0, .nameAndType 501 1061), (0, u "(IILjava/util/function/BiFunction;)I"), (0, .methodref 1054 1063), (0, .nameAndType 513 1064), (0, u "(IIILjava/util/function/BiFunction;)I"), (0, .methodref 1054 1066), (0, .nameAndType 1067 1064), (0, u "checkFromIndexSize"), (33, u "serialPersistentFields"), (0, u "[Ljava/io/ObjectStreamField;"), (0, .class_ 1104), (0, u "java/lang/String$CaseInsensitiveComparator"), (1, .class_ 1107), (0, u "java/io/Serializable"), (0, .class_ 1109), (0, u "java/lang/Comparable"), (0, .class_ 1111), (0, u "java/lang/constant/Constable"), (0, .class_ 1113), (0, u "java/lang/constant/ConstantDesc"), (2, u "serialVersionUID"), (0, u "J"), (3, u "REPL"), (0, u "C"), (2, u "LATIN1"), (1, u "UTF16"), (105, u "(Ljava/lang/StringBuilder;)V")] 217

def k8m0 : Method := { name := "<init>", desc := "()V", sig := { parameters := [], returnType := none }, accessFlags := 1, code := none }
def k8c1 : Code := { maxStack := 3, maxLocals := 2, code := jdk_42_method_53_code, exceptionTable := #[], attributes := #[] }
def k8m1 : Method := { name := "<init>", desc := "(Ljava/lang/StringBuilder;)V", sig := { parameters := [(.object "java/lang/StringBuilder")], returnType := none }, accessFlags := 1, code := some k8c1 }
def k8c2 : Code := { maxStack := 2, maxLocals := 1, code := jdk_42_method_54_code, exceptionTable := #[], attributes := #[] }
def k8m2 : Method := { name := "length", desc := "()I", sig := { parameters := [], returnType := some .int }, accessFlags := 1, code := some k8c2 }
def k8c3 : Code := { maxStack := 2, maxLocals := 2, code := jdk_42_method_56_code, exceptionTable := #[], attributes := #[] }
def k8m3 : Method := { name := "charAt", desc := "(I)C", sig := { parameters := [.int], returnType := some .char }, accessFlags := 1, code := some k8c3 }
def k8c4 : Code := { maxStack := 5, maxLocals := 5, code := jdk_42_method_150_code, exceptionTable := #[], attributes := #[] }
def k8m4 : Method := { name := "<init>", desc := "(Ljava/lang/AbstractStringBuilder;Ljava/lang/Void;)V", sig := { parameters := [(.object "java/lang/AbstractStringBuilder"), (.object "java/lang/Void")], returnType := none }, accessFlags := 0, code := some k8c4 }
def k8c5 : Code := { maxStack := 1, maxLocals := 1, code := jdk_42_method_152_code, exceptionTable := #[], attributes := #[] }
def k8m5 : Method := { name := "coder", desc := "()B", sig := { parameters := [], returnType := some .byte }, accessFlags := 0, code := some k8c5 }
def k8c6 : Code := { maxStack := 1, maxLocals := 1, code := jdk_42_method_154_code, exceptionTable := #[], attributes := #[] }
def k8m6 : Method := { name := "isLatin1", desc := "()Z", sig := { parameters := [], returnType := some .boolean }, accessFlags := 0, code := some k8c6 }
def k8c7 : Code := { maxStack := 3, maxLocals := 2, code := jdk_42_method_155_code, exceptionTable := #[], attributes := #[] }
def k8m7 : Method := { name := "checkIndex", desc := "(II)V", sig := { parameters := [.int, .int], returnType := none }, accessFlags := 8, code := some k8c7 }
def k8c8 : Code := { maxStack := 4, maxLocals := 3, code := jdk_42_method_157_code, exceptionTable := #[], attributes := #[] }
def k8m8 : Method := { name := "checkBoundsOffCount", desc := "(III)I", sig := { parameters := [.int, .int, .int], returnType := some .int }, accessFlags := 8, code := some k8c8 }
def k8c9 : Code := { maxStack := 4, maxLocals := 3, code := jdk_42_method_158_code, exceptionTable := #[], attributes := #[] }
def k8m9 : Method := { name := "checkBoundsBeginEnd", desc := "(III)V", sig := { parameters := [.int, .int, .int], returnType := none }, accessFlags := 8, code := some k8c9 }
/-- java/lang/String -/
def k8 : Class := { plain "java/lang/String" (some 0) with
  accessFlags := 49
  interfaces := #[3, 4, 5, 6, 7]
  cf := some (fileOf pool8 10 #[.nestMembers #[1103]] #[{ accessFlags := 1, nameIndex := 5, descriptorIndex := 6, attributes := #[] }, { accessFlags := 1, nameIndex := 5, descriptorIndex := 1233, attributes := #[] }, { accessFlags := 1, nameIndex := 507, descriptorIndex := 334, attributes := #[] }, { accessFlags := 1, nameIndex := 497, descriptorIndex := 427, attributes := #[] }, { accessFlags := 0, nameIndex := 5, descriptorIndex := 491, attributes := #[] }, { accessFlags := 0, nameIndex := 17, descriptorIndex := 337, attributes := #[] }, { accessFlags := 0, nameIndex := 494, descriptorIndex := 142, attributes := #[] }, { accessFlags := 8, nameIndex := 501, descriptorIndex := 391, attributes := #[] }, { accessFlags := 8, nameIndex := 36, descriptorIndex := 37, attributes := #[] }, { accessFlags := 8, nameIndex := 523, descriptorIndex := 524, attributes := #[] }] 49 2 #[1106, 1108, 575, 1110, 1112] #[{ accessFlags := 18, nameIndex := 13, descriptorIndex := 14, attributes := #[] }, { accessFlags := 18, nameIndex := 17, descriptorIndex := 18, attributes := #[] }, { accessFlags := 2, nameIndex := 21, descriptorIndex := 22, attributes := #[] }, { accessFlags := 2, nameIndex := 25, descriptorIndex := 26, attributes := #[] }, { accessFlags := 26, nameIndex := 1116, descriptorIndex := 1117, attributes := #[] }, { accessFlags := 24, nameIndex := 40, descriptorIndex := 26, attributes := #[] }, { accessFlags := 26, nameIndex := 1101, descriptorIndex := 1102, attributes := #[] }, { accessFlags := 26, nameIndex := 1121, descriptorIndex := 1122, attributes := #[] }, { accessFlags := 25, nameIndex := 599, descriptorIndex := 600, attributes := #[] }, { accessFlags := 24, nameIndex := 1125, descriptorIndex := 18, attributes := #[] }, { accessFlags := 24, nameIndex := 1127, descriptorIndex := 18, attributes := #[] }])
  fields := #[{ name := "value", type := (.array .byte), accessFlags := 18, slot := 0, constantValue := 0 }, { name := "coder", type := .byte, accessFlags := 18, slot := 1, constantValue := 0 }, { name := "hash", type := .int, accessFlags := 2, slot := 2, constantValue := 0 }, { name := "hashIsZero", type := .boolean, accessFlags := 2, slot := 3, constantValue := 0 }, { name := "serialVersionUID", type := .long, accessFlags := 26, slot := 0, constantValue := 0 }, { name := "COMPACT_STRINGS", type := .boolean, accessFlags := 24, slot := 1, constantValue := 0 }, { name := "serialPersistentFields", type := (.array (.object "java/io/ObjectStreamField")), accessFlags := 26, slot := 2, constantValue := 0 }, { name := "REPL", type := .char, accessFlags := 26, slot := 3, constantValue := 0 }, { name := "CASE_INSENSITIVE_ORDER", type := (.object "java/util/Comparator"), accessFlags := 25, slot := 4, constantValue := 0 }, { name := "LATIN1", type := .byte, accessFlags := 24, slot := 5, constantValue := 0 }, { name := "UTF16", type := .byte, accessFlags := 24, slot := 6, constantValue := 0 }]
  methods := #[k8m0, k8m1, k8m2, k8m3, k8m4, k8m5, k8m6, k8m7, k8m8, k8m9]
  instanceTypes := #[(.array .byte), .byte, .int, .boolean]
  staticTypes := #[.long, .boolean, (.array (.object "java/io/ObjectStreamField")), .char, (.object "java/util/Comparator"), .byte, .byte]
  resolved := Array.replicate 1451 none
  statics := some 0 }

def pool9 : Array CpInfo := pool [(8, .class_ 10), (1, u "java/lang/Iterable"), (24, .class_ 36), (0, u "java/lang/Object")] 25

/-- java/lang/Iterable -/
def k9 : Class := { plain "java/lang/Iterable" (some 0) with
  accessFlags := 1537
  interfaces := #[]
  cf := some (fileOf pool9 8 #[] #[] 1537 35 #[] #[])
  fields := #[]
  methods := #[]
  instanceTypes := #[]
  staticTypes := #[]
  resolved := Array.replicate 62 none
  statics := none }

def pool10 : Array CpInfo := pool [(10, .class_ 12), (1, u "java/util/Collection"), (47, .class_ 61), (0, u "java/lang/Object"), (0, .class_ 63), (0, u "java/lang/Iterable")] 51

/-- java/util/Collection -/
def k10 : Class := { plain "java/util/Collection" (some 0) with
  accessFlags := 1537
  interfaces := #[9]
  cf := some (fileOf pool10 10 #[] #[] 1537 60 #[62] #[])
  fields := #[]
  methods := #[]
  instanceTypes := #[]
  staticTypes := #[]
  resolved := Array.replicate 115 none
  statics := none }

def pool11 : Array CpInfo := pool [(1, .methodref 2 3), (0, .class_ 4), (0, .nameAndType 5 6), (0, u "java/lang/Object"), (0, u "<init>"), (0, u "()V"), (1, .class_ 10), (1, u "java/util/AbstractCollection"), (66, .class_ 78), (0, u "java/util/Collection")] 81

def k11c0 : Code := { maxStack := 1, maxLocals := 1, code := jdk_22_method_1_code, exceptionTable := #[], attributes := #[] }
def k11m0 : Method := { name := "<init>", desc := "()V", sig := { parameters := [], returnType := none }, accessFlags := 4, code := some k11c0 }
/-- java/util/AbstractCollection -/
def k11 : Class := { plain "java/util/AbstractCollection" (some 0) with
  accessFlags := 1057
  interfaces := #[10]
  cf := some (fileOf pool11 8 #[] #[{ accessFlags := 4, nameIndex := 5, descriptorIndex := 6, attributes := #[] }] 1057 2 #[77] #[])
  fields := #[]
  methods := #[k11m0]
  instanceTypes := #[]
  staticTypes := #[]
  resolved := Array.replicate 160 none
  statics := none }

def pool12 : Array CpInfo := pool [(8, .class_ 10), (1, u "java/util/SequencedCollection"), (15, .class_ 27), (0, u "java/lang/Object"), (0, .class_ 29), (0, u "java/util/Collection")] 27

/-- java/util/SequencedCollection -/
def k12 : Class := { plain "java/util/SequencedCollection" (some 0) with
  accessFlags := 1537
  interfaces := #[10]
  cf := some (fileOf pool12 8 #[] #[] 1537 26 #[28] #[])
  fields := #[]
  methods := #[]
  instanceTypes := #[]
  staticTypes := #[]
  resolved := Array.replicate 57 none
  statics := none }

def pool13 : Array CpInfo := pool [(8, .class_ 10), (1, u "java/util/List"), (92, .class_ 104), (0, u "java/lang/Object"), (15, .class_ 121), (0, u "java/util/SequencedCollection")] 129

/-- java/util/List -/
def k13 : Class := { plain "java/util/List" (some 0) with
  accessFlags := 1537
  interfaces := #[12]
  cf := some (fileOf pool13 8 #[] #[] 1537 103 #[120] #[])
  fields := #[]
  methods := #[]
  instanceTypes := #[]
  staticTypes := #[]
  resolved := Array.replicate 251 none
  statics := none }

def pool14 : Array CpInfo := pool [(1, .methodref 2 3), (0, .class_ 4), (0, .nameAndType 5 6), (0, u "java/util/AbstractCollection"), (0, u "<init>"), (0, u "()V"), (0, .fieldref 8 9), (0, .class_ 10), (0, .nameAndType 11 12), (0, u "java/util/AbstractList"), (0, u "modCount"), (0, u "I"), (64, .class_ 78), (0, u "java/util/AbstractList$Itr"), (3, .class_ 83), (0, u "java/util/AbstractList$ListItr"), (9, .class_ 94), (0, u "java/util/AbstractList$RandomAccessSubList"), (3, .class_ 99), (0, u "java/util/AbstractList$SubList"), (33, .class_ 134), (0, u "java/util/List"), (73, .class_ 209), (0, u "java/util/AbstractList$SubList$1"), (0, .class_ 211), (0, u "java/util/AbstractList$RandomAccessSpliterator")] 6

def k14c0 : Code := { maxStack := 2, maxLocals := 1, code := jdk_39_method_1_code, exceptionTable := #[], attributes := #[] }
def k14m0 : Method := { name := "<init>", desc := "()V", sig := { parameters := [], returnType := none }, accessFlags := 4, code := some k14c0 }
/-- java/util/AbstractList -/
def k14 : Class := { plain "java/util/AbstractList" (some 11) with
  accessFlags := 1057
  interfaces := #[13]
  cf := some (fileOf pool14 8 #[.nestMembers #[93, 98, 208, 210, 82, 77]] #[{ accessFlags := 4, nameIndex := 5, descriptorIndex := 6, attributes := #[] }] 1057 2 #[133] #[{ accessFlags := 132, nameIndex := 11, descriptorIndex := 12, attributes := #[] }])
  fields := #[{ name := "modCount", type := .int, accessFlags := 132, slot := 0, constantValue := 0 }]
  methods := #[k14m0]
  instanceTypes := #[.int]
  staticTypes := #[]
  resolved := Array.replicate 218 none
  statics := none }

def pool15 : Array CpInfo := pool [(1, .class_ 2), (0, u "java/util/RandomAccess"), (0, .class_ 4), (0, u "java/lang/Object")] 2

/-- java/util/RandomAccess -/
def k15 : Class := { plain "java/util/RandomAccess" (some 0) with
  accessFlags := 1537
  interfaces := #[]
  cf := some (fileOf pool15 1 #[] #[] 1537 3 #[] #[])
  fields := #[]
  methods := #[]
  instanceTypes := #[]
  staticTypes := #[]
  resolved := Array.replicate 7 none
  statics := none }

def pool16 : Array CpInfo := pool [(1, .class_ 2), (0, u "java/lang/Cloneable"), (0, .class_ 4), (0, u "java/lang/Object")] 2

/-- java/lang/Cloneable -/
def k16 : Class := { plain "java/lang/Cloneable" (some 0) with
  accessFlags := 1537
  interfaces := #[]
  cf := some (fileOf pool16 1 #[] #[] 1537 3 #[] #[])
  fields := #[]
  methods := #[]
  instanceTypes := #[]
  staticTypes := #[]
  resolved := Array.replicate 7 none
  statics := none }

def pool17 : Array CpInfo := pool [(1, .methodref 2 3), (0, .class_ 4), (0, .nameAndType 5 6), (0, u "java/util/AbstractList"), (0, u "<init>"), (0, u "()V"), (2, .fieldref 10 11), (0, .class_ 12), (0, .nameAndType 13 14), (0, u "java/util/ArrayList"), (0, u "elementData"), (0, u "[Ljava/lang/Object;"), (2, u "EMPTY_ELEMENTDATA"), (21, .fieldref 10 40), (0, .nameAndType 41 14), (0, u "DEFAULTCAPACITY_EMPTY_ELEMENTDATA"), (8, u "size"), (0, u "I"), (96, .class_ 149), (0, u "java/util/List"), (112, .class_ 263), (0, u "java/util/ArrayList$ListItr"), (3, .class_ 268), (0, u "java/util/ArrayList$Itr"), (7, .class_ 277), (0, u "java/util/ArrayList$SubList"), (12, .class_ 291), (0, u "java/util/ArrayList$ArrayListSpliterator"), (37, .class_ 330), (0, u "java/util/RandomAccess"), (0, .class_ 332), (0, u "java/lang/Cloneable"), (0, .class_ 334), (0, u "java/io/Serializable"), (0, u "serialVersionUID"), (0, u "J"), (3, u "DEFAULT_CAPACITY"), (159, .class_ 501), (0, u "java/util/ArrayList$SubList$2"), (0, .class_ 503), (0, u "java/util/ArrayList$SubList$1")] 5

def k17c0 : Code := { maxStack := 2, maxLocals := 1, code := jdk_38_method_2_code, exceptionTable := #[], attributes := #[] }
def k17m0 : Method := { name := "<init>", desc := "()V", sig := { parameters := [], returnType := none }, accessFlags := 1, code := some k17c0 }
/-- java/util/ArrayList -/
def k17 : Class := { plain "java/util/ArrayList" (some 14) with
  accessFlags := 33
  interfaces := #[13, 15, 16, 3]
  cf := some (fileOf pool17 10 #[.nestMembers #[290, 276, 500, 502, 262, 267]] #[{ accessFlags := 1, nameIndex := 5, descriptorIndex := 6, attributes := #[] }] 33 2 #[148, 329, 331, 333] #[{ accessFlags := 26, nameIndex := 335, descriptorIndex := 336, attributes := #[] }, { accessFlags := 26, nameIndex := 340, descriptorIndex := 51, attributes := #[] }, { accessFlags := 26, nameIndex := 17, descriptorIndex := 14, attributes := #[] }, { accessFlags := 26, nameIndex := 41, descriptorIndex := 14, attributes := #[] }, { accessFlags := 128, nameIndex := 13, descriptorIndex := 14, attributes := #[] }, { accessFlags := 2, nameIndex := 50, descriptorIndex := 51, attributes := #[] }])
  fields := #[{ name := "serialVersionUID", type := .long, accessFlags := 26, slot := 0, constantValue := 0 }, { name := "DEFAULT_CAPACITY", type := .int, accessFlags := 26, slot := 1, constantValue := 0 }, { name := "EMPTY_ELEMENTDATA", type := (.array (.object "java/lang/Object")), accessFlags := 26, slot := 2, constantValue := 0 }, { name := "DEFAULTCAPACITY_EMPTY_ELEMENTDATA", type := (.array (.object "java/lang/Object")), accessFlags := 26, slot := 3, constantValue := 0 }, { name := "elementData", type := (.array (.object "java/lang/Object")), accessFlags := 128, slot := 1, constantValue := 0 }, { name := "size", type := .int, accessFlags := 2, slot := 2, constantValue := 0 }]
  methods := #[k17m0]
  instanceTypes := #[.int, (.array (.object "java/lang/Object")), .int]
  staticTypes := #[.long, .int, (.array (.object "java/lang/Object")), (.array (.object "java/lang/Object"))]
  resolved := Array.replicate 509 none
  statics := some 1 }

def pool18 : Array CpInfo := pool [(1, .class_ 2), (0, u "java/lang/Appendable"), (0, .class_ 4), (0, u "java/lang/Object")] 9

/-- java/lang/Appendable -/
def k18 : Class := { plain "java/lang/Appendable" (some 0) with
  accessFlags := 1537
  interfaces := #[]
  cf := some (fileOf pool18 1 #[] #[] 1537 3 #[] #[])
  fields := #[]
  methods := #[]
  instanceTypes := #[]
  staticTypes := #[]
  resolved := Array.replicate 14 none
  statics := none }

def pool19 : Array CpInfo := pool [(1, .class_ 2), (0, u "java/lang/String"), (0, .methodref 4 5), (0, .class_ 6), (0, .nameAndType 7 8), (0, u "java/lang/Object"), (0, u "<init>"), (0, u "()V"), (1, .class_ 12), (1, u "java/lang/AbstractStringBuilder"), (0, u "EMPTYVALUE"), (0, u "[B"), (0, .fieldref 10 16), (0, .nameAndType 17 14), (0, u "value"), (0, .fieldref 1 19), (0, .nameAndType 20 21), (0, u "COMPACT_STRINGS"), (0, u "Z"), (0, .fieldref 10 23), (0, .nameAndType 24 25), (0, u "coder"), (0, u "B"), (0, .methodref 27 28), (0, .class_ 29), (0, .nameAndType 30 31), (0, u "java/lang/StringUTF16"), (0, u "newBytesFor"), (0, u "(I)[B"), (2, u "length"), (0, u "()I"), (3, .integer 2147483647), (5, u "append"), (2, .class_ 49), (0, u "java/lang/CharSequence"), (25, u "maybeLatin1"), (3, .fieldref 10 80), (0, .nameAndType 81 82), (0, u "count"), (0, u "I"), (0, .methodref 10 84), (0, .nameAndType 85 86), (0, u "isLatin1"), (0, u "()Z"), (1, .class_ 90), (1, u "java/lang/StringLatin1"), (9, .methodref 10 101), (0, .nameAndType 102 103), (0, u "ensureCapacityInternal"), (0, u "(I)V"), (0, .methodref 10 105), (0, .nameAndType 106 107), (0, u "newCapacity"), (0, u "(I)I"), (0, .methodref 109 110), (0, .class_ 111), (0, .nameAndType 112 113), (0, u "java/util/Arrays"), (0, u "copyOf"), (0, u "([BI)[B"), (0, .methodref 115 116), (0, .class_ 117), (0, .nameAndType 118 119), (0, u "jdk/internal/util/ArraysSupport"), (0, u "newLength"), (0, u "(III)I"), (5, .methodref 88 126), (0, .nameAndType 127 128), (0, u "inflate"), (0, u "([BI[BII)V"), (32, .methodref 162 163), (0, .class_ 164), (0, .nameAndType 165 166), (0, u "jdk/internal/util/Preconditions"), (0, u "checkFromToIndex"), (0, u "(IIILjava/util/function/BiFunction;)I"), (15, u "Ljava/util/function/BiFunction;"), (0, .fieldref 162 184), (0, .nameAndType 185 182), (0, u "IOOBE_FORMATTER"), (5, .methodref 88 192), (0, .nameAndType 193 194), (0, u "canEncode"), (0, u "(C)Z"), (0, .methodref 10 196), (0, .nameAndType 127 8), (37, u "appendChars"), (4, .methodref 10 240), (0, .nameAndType 234 241), (0, u "([CII)V"), (144, .methodref 27 387), (0, .nameAndType 388 389), (0, u "putCharsSB"), (0, u "([BI[CII)V"), (13, u "()[B"), (40, .class_ 445), (0, u "java/lang/Appendable"), (60, u "([CII)Ljava/lang/AbstractStringBuilder;"), (45, u "getValue")] 56

def k19m0 : Method := { name := "<init>", desc := "()V", sig := { parameters := [], returnType := none }, accessFlags := 0, code := none }
def k19c1 : Code := { maxStack := 2, maxLocals := 2, code := jdk_68_method_2_code, exceptionTable := #[], attributes := #[] }
def k19m1 : Method := { name := "<init>", desc := "(I)V", sig := { parameters := [.int], returnType := none }, accessFlags := 0, code := some k19c1 }
def k19c2 : Code := { maxStack := 1, maxLocals := 1, code := jdk_68_method_6_code, exceptionTable := #[], attributes := #[] }
def k19m2 : Method := { name := "length", desc := "()I", sig := { parameters := [], returnType := some .int }, accessFlags := 1, code := some k19c2 }
def k19c3 : Code := { maxStack := 4, maxLocals := 3, code := jdk_68_method_9_code, exceptionTable := #[], attributes := #[] }
def k19m3 : Method := { name := "ensureCapacityInternal", desc := "(I)V", sig := { parameters := [.int], returnType := none }, accessFlags := 2, code := some k19c3 }
def k19c4 : Code := { maxStack := 5, maxLocals := 6, code := jdk_68_method_10_code, exceptionTable := #[], attributes := #[] }
def k19m4 : Method := { name := "newCapacity", desc := "(I)I", sig := { parameters := [.int], returnType := some .int }, accessFlags := 2, code := some k19c4 }
def k19c5 : Code := { maxStack := 5, maxLocals := 2, code := jdk_68_method_11_code, exceptionTable := #[], attributes := #[] }
def k19m5 : Method := { name := "inflate", desc := "()V", sig := { parameters := [], returnType := none }, accessFlags := 2, code := some k19c5 }
def k19c6 : Code := { maxStack := 4, maxLocals := 5, code := jdk_68_method_29_code, exceptionTable := #[], attributes := #[] }
def k19m6 : Method := { name := "append", desc := "([CII)Ljava/lang/AbstractStringBuilder;", sig := { parameters := [(.array .char), .int, .int], returnType := some (.object "java/lang/AbstractStringBuilder") }, accessFlags := 1, code := some k19c6 }
def k19c7 : Code := { maxStack := 1, maxLocals := 1, code := jdk_68_method_64_code, exceptionTable := #[], attributes := #[] }
def k19m7 : Method := { name := "getValue", desc := "()[B", sig := { parameters := [], returnType := some (.array .byte) }, accessFlags := 16, code := some k19c7 }
def k19c8 : Code := { maxStack := 1, maxLocals := 1, code := jdk_68_method_68_code, exceptionTable := #[], attributes := #[] }
def k19m8 : Method := { name := "isLatin1", desc := "()Z", sig := { parameters := [], returnType := some .boolean }, accessFlags := 16, code := some k19c8 }
def k19c9 : Code := { maxStack := 5, maxLocals := 9, code := jdk_68_method_74_code, exceptionTable := #[], attributes := #[] }
def k19m9 : Method := { name := "appendChars", desc := "([CII)V", sig := { parameters := [(.array .char), .int, .int], returnType := none }, accessFlags := 18, code := some k19c9 }
/-- java/lang/AbstractStringBuilder -/
def k19 : Class := { plain "java/lang/AbstractStringBuilder" (some 0) with
  accessFlags := 1056
  interfaces := #[18, 5]
  cf := some (fileOf pool19 10 #[] #[{ accessFlags := 0, nameIndex := 7, descriptorIndex := 8, attributes := #[] }, { accessFlags := 0, nameIndex := 7, descriptorIndex := 103, attributes := #[] }, { accessFlags := 1, nameIndex := 34, descriptorIndex := 35, attributes := #[] }, { accessFlags := 2, nameIndex := 102, descriptorIndex := 103, attributes := #[] }, { accessFlags := 2, nameIndex := 106, descriptorIndex := 107, attributes := #[] }, { accessFlags := 2, nameIndex := 127, descriptorIndex := 8, attributes := #[] }, { accessFlags := 1, nameIndex := 45, descriptorIndex := 506, attributes := #[] }, { accessFlags := 16, nameIndex := 552, descriptorIndex := 403, attributes := #[] }, { accessFlags := 16, nameIndex := 85, descriptorIndex := 86, attributes := #[] }, { accessFlags := 18, nameIndex := 234, descriptorIndex := 241, attributes := #[] }] 1056 4 #[444, 48] #[{ accessFlags := 0, nameIndex := 17, descriptorIndex := 14, attributes := #[] }, { accessFlags := 0, nameIndex := 24, descriptorIndex := 25, attributes := #[] }, { accessFlags := 0, nameIndex := 75, descriptorIndex := 21, attributes := #[] }, { accessFlags := 0, nameIndex := 81, descriptorIndex := 82, attributes := #[] }, { accessFlags := 26, nameIndex := 13, descriptorIndex := 14, attributes := #[] }])
  fields := #[{ name := "value", type := (.array .byte), accessFlags := 0, slot := 0, constantValue := 0 }, { name := "coder", type := .byte, accessFlags := 0, slot := 1, constantValue := 0 }, { name := "maybeLatin1", type := .boolean, accessFlags := 0, slot := 2, constantValue := 0 }, { name := "count", type := .int, accessFlags := 0, slot := 3, constantValue := 0 }, { name := "EMPTYVALUE", type := (.array .byte), accessFlags := 26, slot := 0, constantValue := 0 }]
  methods := #[k19m0, k19m1, k19m2, k19m3, k19m4, k19m5, k19m6, k19m7, k19m8, k19m9]
  instanceTypes := #[(.array .byte), .byte, .boolean, .int]
  staticTypes := #[(.array .byte)]
  resolved := Array.replicate 609 none
  statics := none }

def pool20 : Array CpInfo := pool [(1, .methodref 2 3), (0, .class_ 4), (0, .nameAndType 5 6), (0, u "java/lang/AbstractStringBuilder"), (0, u "<init>"), (0, u "(I)V"), (11, .class_ 20), (1, u "java/lang/String"), (3, .class_ 26), (1, u "java/lang/StringBuilder"), (0, u "append"), (16, .methodref 2 45), (0, .nameAndType 27 46), (0, u "([CII)Ljava/lang/AbstractStringBuilder;"), (90, .methodref 18 138), (0, .nameAndType 5 139), (0, u "(Ljava/lang/StringBuilder;)V"), (5, u "()V"), (10, u "()I"), (135, u "([CII)Ljava/lang/StringBuilder;"), (50, .methodref 2 344), (0, .nameAndType 345 156), (0, u "length"), (3, .class_ 350), (0, u "java/lang/Appendable"), (0, .class_ 352), (0, u "java/io/Serializable"), (0, .class_ 354), (0, u "java/lang/Comparable"), (0, .class_ 356), (0, u "java/lang/CharSequence"), (0, u "serialVersionUID"), (0, u "J"), (40, u "toString"), (0, u "()Ljava/lang/String;")] 21

def k20m0 : Method := { name := "<init>", desc := "()V", sig := { parameters := [], returnType := none }, accessFlags := 1, code := none }
def k20c1 : Code := { maxStack := 2, maxLocals := 2, code := jdk_67_method_2_code, exceptionTable := #[], attributes := #[] }
def k20m1 : Method := { name := "<init>", desc := "(I)V", sig := { parameters := [.int], returnType := none }, accessFlags := 1, code := some k20c1 }
def k20c2 : Code := { maxStack := 4, maxLocals := 4, code := jdk_67_method_12_code, exceptionTable := #[], attributes := #[] }
def k20m2 : Method := { name := "append", desc := "([CII)Ljava/lang/StringBuilder;", sig := { parameters := [(.array .char), .int, .int], returnType := some (.object "java/lang/StringBuilder") }, accessFlags := 1, code := some k20c2 }
def k20c3 : Code := { maxStack := 3, maxLocals := 1, code := jdk_67_method_42_code, exceptionTable := #[], attributes := #[] }
def k20m3 : Method := { name := "toString", desc := "()Ljava/lang/String;", sig := { parameters := [], returnType := some (.object "java/lang/String") }, accessFlags := 1, code := some k20c3 }
def k20c4 : Code := { maxStack := 1, maxLocals := 1, code := jdk_67_method_93_code, exceptionTable := #[], attributes := #[] }
def k20m4 : Method := { name := "length", desc := "()I", sig := { parameters := [], returnType := some .int }, accessFlags := 4161, code := some k20c4 }
/-- java/lang/StringBuilder -/
def k20 : Class := { plain "java/lang/StringBuilder" (some 19) with
  accessFlags := 49
  interfaces := #[18, 3, 4, 5]
  cf := some (fileOf pool20 24 #[] #[{ accessFlags := 1, nameIndex := 5, descriptorIndex := 145, attributes := #[] }, { accessFlags := 1, nameIndex := 5, descriptorIndex := 6, attributes := #[] }, { accessFlags := 1, nameIndex := 27, descriptorIndex := 292, attributes := #[] }, { accessFlags := 1, nameIndex := 399, descriptorIndex := 400, attributes := #[] }, { accessFlags := 4161, nameIndex := 345, descriptorIndex := 156, attributes := #[] }] 49 2 #[349, 351, 353, 355] #[{ accessFlags := 24, nameIndex := 357, descriptorIndex := 358, attributes := #[] }])
  fields := #[{ name := "serialVersionUID", type := .long, accessFlags := 24, slot := 0, constantValue := 0 }]
  methods := #[k20m0, k20m1, k20m2, k20m3, k20m4]
  instanceTypes := #[(.array .byte), .byte, .boolean, .int]
  staticTypes := #[.long]
  resolved := Array.replicate 422 none
  statics := none }

def pool21 : Array CpInfo := pool [(2, .class_ 4), (1, u "java/lang/Object"), (0, u "<init>"), (0, u "()V"), (17, .class_ 26), (1, u "jdk/internal/util/Preconditions"), (6, u "checkIndex"), (13, u "checkFromToIndex"), (1, u "checkFromIndexSize"), (5, .class_ 56), (0, u "jdk/internal/util/Preconditions$4"), (57, .class_ 115), (0, u "jdk/internal/util/Preconditions$1"), (7, u "SIOOBE_FORMATTER"), (0, u "Ljava/util/function/BiFunction;"), (0, .class_ 126), (0, u "jdk/internal/util/Preconditions$2"), (3, u "AIOOBE_FORMATTER"), (0, .class_ 132), (0, u "jdk/internal/util/Preconditions$3"), (3, u "IOOBE_FORMATTER"), (41, u "(IILjava/util/function/BiFunction;)I"), (4, u "(IIILjava/util/function/BiFunction;)I")] 10

def k21m0 : Method := { name := "<init>", desc := "()V", sig := { parameters := [], returnType := none }, accessFlags := 1, code := none }
def k21c1 : Code := { maxStack := 3, maxLocals := 3, code := jdk_41_method_11_code, exceptionTable := #[], attributes := #[] }
def k21m1 : Method := { name := "checkIndex", desc := "(IILjava/util/function/BiFunction;)I", sig := { parameters := [.int, .int, (.object "java/util/function/BiFunction")], returnType := some .int }, accessFlags := 9, code := some k21c1 }
def k21c2 : Code := { maxStack := 4, maxLocals := 4, code := jdk_41_method_12_code, exceptionTable := #[], attributes := #[] }
def k21m2 : Method := { name := "checkFromToIndex", desc := "(IIILjava/util/function/BiFunction;)I", sig := { parameters := [.int, .int, .int, (.object "java/util/function/BiFunction")], returnType := some .int }, accessFlags := 9, code := some k21c2 }
def k21c3 : Code := { maxStack := 4, maxLocals := 4, code := jdk_41_method_13_code, exceptionTable := #[], attributes := #[] }
def k21m3 : Method := { name := "checkFromIndexSize", desc := "(IIILjava/util/function/BiFunction;)I", sig := { parameters := [.int, .int, .int, (.object "java/util/function/BiFunction")], returnType := some .int }, accessFlags := 9, code := some k21c3 }
/-- jdk/internal/util/Preconditions -/
def k21 : Class := { plain "jdk/internal/util/Preconditions" (some 0) with
  accessFlags := 33
  interfaces := #[]
  cf := some (fileOf pool21 24 #[.nestMembers #[55, 131, 125, 114]] #[{ accessFlags := 1, nameIndex := 5, descriptorIndex := 6, attributes := #[] }, { accessFlags := 9, nameIndex := 33, descriptorIndex := 178, attributes := #[] }, { accessFlags := 9, nameIndex := 47, descriptorIndex := 183, attributes := #[] }, { accessFlags := 9, nameIndex := 49, descriptorIndex := 183, attributes := #[] }] 33 2 #[] #[{ accessFlags := 25, nameIndex := 123, descriptorIndex := 124, attributes := #[] }, { accessFlags := 25, nameIndex := 130, descriptorIndex := 124, attributes := #[] }, { accessFlags := 25, nameIndex := 136, descriptorIndex := 124, attributes := #[] }])
  fields := #[{ name := "SIOOBE_FORMATTER", type := (.object "java/util/function/BiFunction"), accessFlags := 25, slot := 0, constantValue := 0 }, { name := "AIOOBE_FORMATTER", type := (.object "java/util/function/BiFunction"), accessFlags := 25, slot := 1, constantValue := 0 }, { name := "IOOBE_FORMATTER", type := (.object "java/util/function/BiFunction"), accessFlags := 25, slot := 2, constantValue := 0 }]
  methods := #[k21m0, k21m1, k21m2, k21m3]
  instanceTypes := #[]
  staticTypes := #[(.object "java/util/function/BiFunction"), (.object "java/util/function/BiFunction"), (.object "java/util/function/BiFunction")]
  resolved := Array.replicate 194 none
  statics := some 2 }

def pool22 : Array CpInfo := pool [(2, .class_ 4), (1, u "java/lang/Object"), (0, u "<init>"), (0, u "()V"), (7, .class_ 16), (1, u "java/util/Arrays"), (57, .class_ 76), (1, u "java/util/Arrays$NaturalOrder"), (32, u "()Ljava/lang/Object;"), (3, .class_ 115), (1, u "java/util/Arrays$LegacyMergeSort"), (1, u "Z"), (10, .nameAndType 129 109), (0, u "clone"), (9, u "copyOfRange"), (10, .methodref 151 152), (0, .class_ 153), (0, .nameAndType 154 155), (0, u "java/lang/System"), (0, u "arraycopy"), (0, u "(Ljava/lang/Object;ILjava/lang/Object;II)V"), (146, u "copyOf"), (1, .methodref 305 306), (0, .class_ 307), (0, .nameAndType 308 309), (0, u "java/lang/Math"), (0, u "min"), (0, u "(II)I"), (0, .methodref 311 128), (0, .class_ 312), (0, u "[B"), (26, .methodref 14 340), (0, .nameAndType 341 342), (0, u "copyOfRangeByte"), (0, u "([BII)[B"), (0, .methodref 14 344), (0, .nameAndType 345 346), (0, u "checkLength"), (0, u "(II)V"), (28, .class_ 376), (0, u "java/util/Arrays$ArrayList"), (68, u "$assertionsDisabled"), (269, u "MIN_ARRAY_SORT_GRAN"), (0, u "I"), (2, u "INSERTIONSORT_THRESHOLD"), (149, u "([BI)[B"), (105, .class_ 976), (0, u "java/util/Arrays$ArrayItr")] 52

def k22m0 : Method := { name := "<init>", desc := "()V", sig := { parameters := [], returnType := none }, accessFlags := 2, code := none }
def k22c1 : Code := { maxStack := 6, maxLocals := 3, code := jdk_65_method_121_code, exceptionTable := #[], attributes := #[] }
def k22m1 : Method := { name := "copyOf", desc := "([BI)[B", sig := { parameters := [(.array .byte), .int], returnType := some (.array .byte) }, accessFlags := 9, code := some k22c1 }
def k22c2 : Code := { maxStack := 4, maxLocals := 2, code := jdk_65_method_131_code, exceptionTable := #[], attributes := #[] }
def k22m2 : Method := { name := "checkLength", desc := "(II)V", sig := { parameters := [.int, .int], returnType := none }, accessFlags := 10, code := some k22c2 }
def k22c3 : Code := { maxStack := 3, maxLocals := 3, code := jdk_65_method_132_code, exceptionTable := #[], attributes := #[] }
def k22m3 : Method := { name := "copyOfRange", desc := "([BII)[B", sig := { parameters := [(.array .byte), .int, .int], returnType := some (.array .byte) }, accessFlags := 9, code := some k22c3 }
def k22c4 : Code := { maxStack := 6, maxLocals := 5, code := jdk_65_method_133_code, exceptionTable := #[], attributes := #[] }
def k22m4 : Method := { name := "copyOfRangeByte", desc := "([BII)[B", sig := { parameters := [(.array .byte), .int, .int], returnType := some (.array .byte) }, accessFlags := 10, code := some k22c4 }
/-- java/util/Arrays -/
def k22 : Class := { plain "java/util/Arrays" (some 0) with
  accessFlags := 49
  interfaces := #[]
  cf := some (fileOf pool22 14 #[.nestMembers #[975, 375, 113, 74]] #[{ accessFlags := 2, nameIndex := 5, descriptorIndex := 6, attributes := #[] }, { accessFlags := 9, nameIndex := 302, descriptorIndex := 869, attributes := #[] }, { accessFlags := 10, nameIndex := 345, descriptorIndex := 346, attributes := #[] }, { accessFlags := 9, nameIndex := 139, descriptorIndex := 342, attributes := #[] }, { accessFlags := 10, nameIndex := 341, descriptorIndex := 342, attributes := #[] }] 49 2 #[] #[{ accessFlags := 26, nameIndex := 715, descriptorIndex := 716, attributes := #[] }, { accessFlags := 26, nameIndex := 719, descriptorIndex := 716, attributes := #[] }, { accessFlags := 4120, nameIndex := 445, descriptorIndex := 117, attributes := #[] }])
  fields := #[{ name := "MIN_ARRAY_SORT_GRAN", type := .int, accessFlags := 26, slot := 0, constantValue := 0 }, { name := "INSERTIONSORT_THRESHOLD", type := .int, accessFlags := 26, slot := 1, constantValue := 0 }, { name := "$assertionsDisabled", type := .boolean, accessFlags := 4120, slot := 2, constantValue := 0 }]
  methods := #[k22m0, k22m1, k22m2, k22m3, k22m4]
  instanceTypes := #[]
  staticTypes := #[.int, .int, .boolean]
  resolved := Array.replicate 1029 none
  statics := none }

def pool23 : Array CpInfo := pool [(1, .class_ 2), (0, u "java/lang/String"), (1, .class_ 6), (1, u "java/lang/Object"), (0, u "<init>"), (0, u "()V"), (0, .methodref 1 10), (0, .nameAndType 11 12), (0, u "checkIndex"), (0, u "(II)V"), (1, .class_ 16), (1, u "java/lang/StringLatin1"), (0, u "inflate"), (2, .class_ 22), (1, u "java/lang/StringUTF16"), (3, .nameAndType 17 27), (0, u "([BI[BII)V"), (25, u "([BI)C"), (36, u "canEncode"), (14, u "(C)Z"), (15, u "$assertionsDisabled"), (0, u "Z"), (98, .class_ 223), (1, u "java/lang/StringLatin1$LinesSpliterator"), (16, .methodref 20 26), (11, u "charAt"), (137, .class_ 391), (0, u "java/lang/StringLatin1$CharsSpliterator")] 3

def k23m0 : Method := { name := "<init>", desc := "()V", sig := { parameters := [], returnType := none }, accessFlags := 0, code := none }
def k23c1 : Code := { maxStack := 2, maxLocals := 2, code := jdk_43_method_2_code, exceptionTable := #[], attributes := #[] }
def k23m1 : Method := { name := "charAt", desc := "([BI)C", sig := { parameters := [(.array .byte), .int], returnType := some .char }, accessFlags := 9, code := some k23c1 }
def k23c2 : Code := { maxStack := 2, maxLocals := 1, code := jdk_43_method_3_code, exceptionTable := #[], attributes := #[] }
def k23m2 : Method := { name := "canEncode", desc := "(C)Z", sig := { parameters := [.char], returnType := some .boolean }, accessFlags := 9, code := some k23c2 }
def k23c3 : Code := { maxStack := 5, maxLocals := 5, code := jdk_43_method_50_code, exceptionTable := #[], attributes := #[] }
def k23m3 : Method := { name := "inflate", desc := "([BI[BII)V", sig := { parameters := [(.array .byte), .int, (.array .byte), .int, .int], returnType := none }, accessFlags := 9, code := some k23c3 }
/-- java/lang/StringLatin1 -/
def k23 : Class := { plain "java/lang/StringLatin1" (some 0) with
  accessFlags := 48
  interfaces := #[]
  cf := some (fileOf pool23 14 #[.nestMembers #[390, 221]] #[{ accessFlags := 0, nameIndex := 7, descriptorIndex := 8, attributes := #[] }, { accessFlags := 9, nameIndex := 252, descriptorIndex := 53, attributes := #[] }, { accessFlags := 9, nameIndex := 90, descriptorIndex := 105, attributes := #[] }, { accessFlags := 9, nameIndex := 17, descriptorIndex := 27, attributes := #[] }] 48 4 #[] #[{ accessFlags := 4120, nameIndex := 121, descriptorIndex := 122, attributes := #[] }])
  fields := #[{ name := "$assertionsDisabled", type := .boolean, accessFlags := 4120, slot := 0, constantValue := 0 }]
  methods := #[k23m0, k23m1, k23m2, k23m3]
  instanceTypes := #[]
  staticTypes := #[.boolean]
  resolved := Array.replicate 395 none
  statics := none }

def pool24 : Array CpInfo := pool [(3, .class_ 4), (0, u "java/lang/String"), (1, .class_ 8), (1, u "java/lang/Object"), (0, u "<init>"), (0, u "()V"), (0, .methodref 12 13), (0, .class_ 14), (0, .nameAndType 15 16), (0, u "java/lang/StringUTF16"), (0, u "newBytesLength"), (0, u "(I)I"), (3, .integer 1073741823), (23, .fieldref 12 45), (0, .nameAndType 46 47), (0, u "$assertionsDisabled"), (0, u "Z"), (0, .methodref 12 49), (0, .nameAndType 50 51), (0, u "length"), (0, u "([B)I"), (7, .fieldref 12 60), (0, .nameAndType 61 62), (0, u "HI_BYTE_SHIFT"), (0, u "I"), (0, .fieldref 12 64), (0, .nameAndType 65 62), (0, u "LO_BYTE_SHIFT"), (1, .methodref 12 68), (0, .nameAndType 69 70), (0, u "checkIndex"), (0, u "(I[B)V"), (0, .methodref 12 72), (0, .nameAndType 73 74), (0, u "getChar"), (0, u "([BI)C"), (21, .methodref 12 97), (0, .nameAndType 98 99), (0, u "checkBoundsBeginEnd"), (0, u "(II[B)V"), (9, u "newBytesFor"), (0, u "(I)[B"), (0, .methodref 12 112), (0, .nameAndType 113 114), (0, u "putChar"), (0, u "([BII)V"), (25, u "inflate"), (0, u "([BI[BII)V"), (31, .methodref 12 174), (0, .nameAndType 175 99), (0, u "checkBoundsOffCount"), (65, .methodref 3 242), (0, .nameAndType 98 243), (0, u "(III)V"), (37, u "(III)I"), (87, .class_ 371), (1, u "java/lang/StringUTF16$LinesSpliterator"), (12, .methodref 12 385), (0, .nameAndType 386 387), (0, u "putChars"), (0, u "([BI[CII)V"), (4, u "charAt"), (21, .methodref 3 415), (0, .nameAndType 69 416), (0, u "(II)V"), (2, .methodref 3 420), (0, .nameAndType 175 281), (9, u "MAX_LENGTH"), (156, u "putCharsSB"), (39, .class_ 628), (0, u "java/lang/StringUTF16$CodePointsSpliterator"), (0, .class_ 630), (0, u "java/lang/StringUTF16$CharsSpliterator")] 4

def k24m0 : Method := { name := "<init>", desc := "()V", sig := { parameters := [], returnType := none }, accessFlags := 0, code := none }
def k24c1 : Code := { maxStack := 1, maxLocals := 1, code := jdk_52_method_2_code, exceptionTable := #[], attributes := #[] }
def k24m1 : Method := { name := "newBytesFor", desc := "(I)[B", sig := { parameters := [.int], returnType := some (.array .byte) }, accessFlags := 9, code := some k24c1 }
def k24c2 : Code := { maxStack := 4, maxLocals := 1, code := jdk_52_method_3_code, exceptionTable := #[], attributes := #[] }
def k24m2 : Method := { name := "newBytesLength", desc := "(I)I", sig := { parameters := [.int], returnType := some .int }, accessFlags := 9, code := some k24c2 }
def k24c3 : Code := { maxStack := 4, maxLocals := 3, code := jdk_52_method_4_code, exceptionTable := #[], attributes := #[] }
def k24m3 : Method := { name := "putChar", desc := "([BII)V", sig := { parameters := [(.array .byte), .int, .int], returnType := none }, accessFlags := 8, code := some k24c3 }
def k24c4 : Code := { maxStack := 3, maxLocals := 2, code := jdk_52_method_5_code, exceptionTable := #[], attributes := #[] }
def k24m4 : Method := { name := "getChar", desc := "([BI)C", sig := { parameters := [(.array .byte), .int], returnType := some .char }, accessFlags := 8, code := some k24c4 }
def k24c5 : Code := { maxStack := 2, maxLocals := 1, code := jdk_52_method_6_code, exceptionTable := #[], attributes := #[] }
def k24m5 : Method := { name := "length", desc := "([B)I", sig := { parameters := [(.array .byte)], returnType := some .int }, accessFlags := 9, code := some k24c5 }
def k24c6 : Code := { maxStack := 4, maxLocals := 5, code := jdk_52_method_68_code, exceptionTable := #[], attributes := #[] }
def k24m6 : Method := { name := "putChars", desc := "([BI[CII)V", sig := { parameters := [(.array .byte), .int, (.array .char), .int, .int], returnType := none }, accessFlags := 10, code := some k24c6 }
def k24c7 : Code := { maxStack := 5, maxLocals := 5, code := jdk_52_method_72_code, exceptionTable := #[], attributes := #[] }
def k24m7 : Method := { name := "putCharsSB", desc := "([BI[CII)V", sig := { parameters := [(.array .byte), .int, (.array .char), .int, .int], returnType := none }, accessFlags := 9, code := some k24c7 }
def k24c8 : Code := { maxStack := 2, maxLocals := 2, code := jdk_52_method_83_code, exceptionTable := #[], attributes := #[] }
def k24m8 : Method := { name := "charAt", desc := "([BI)C", sig := { parameters := [(.array .byte), .int], returnType := some .char }, accessFlags := 9, code := some k24c8 }
def k24c9 : Code := { maxStack := 4, maxLocals := 6, code := jdk_52_method_86_code, exceptionTable := #[], attributes := #[] }
def k24m9 : Method := { name := "inflate", desc := "([BI[BII)V", sig := { parameters := [(.array .byte), .int, (.array .byte), .int, .int], returnType := none }, accessFlags := 9, code := some k24c9 }
def k24c10 : Code := { maxStack := 2, maxLocals := 2, code := jdk_52_method_91_code, exceptionTable := #[], attributes := #[] }
def k24m10 : Method := { name := "checkIndex", desc := "(I[B)V", sig := { parameters := [.int, (.array .byte)], returnType := none }, accessFlags := 9, code := some k24c10 }
def k24c11 : Code := { maxStack := 3, maxLocals := 3, code := jdk_52_method_93_code, exceptionTable := #[], attributes := #[] }
def k24m11 : Method := { name := "checkBoundsBeginEnd", desc := "(II[B)V", sig := { parameters := [.int, .int, (.array .byte)], returnType := none }, accessFlags := 9, code := some k24c11 }
def k24c12 : Code := { maxStack := 3, maxLocals := 3, code := jdk_52_method_94_code, exceptionTable := #[], attributes := #[] }
def k24m12 : Method := { name := "checkBoundsOffCount", desc := "(II[B)V", sig := { parameters := [.int, .int, (.array .byte)], returnType := none }, accessFlags := 9, code := some k24c12 }
/-- java/lang/StringUTF16 -/
def k24 : Class := { plain "java/lang/StringUTF16" (some 0) with
  accessFlags := 48
  interfaces := #[]
  cf := some (fileOf pool24 12 #[.nestMembers #[627, 629, 369]] #[{ accessFlags := 0, nameIndex := 9, descriptorIndex := 10, attributes := #[] }, { accessFlags := 9, nameIndex := 109, descriptorIndex := 110, attributes := #[] }, { accessFlags := 9, nameIndex := 15, descriptorIndex := 16, attributes := #[] }, { accessFlags := 8, nameIndex := 113, descriptorIndex := 114, attributes := #[] }, { accessFlags := 8, nameIndex := 73, descriptorIndex := 74, attributes := #[] }, { accessFlags := 9, nameIndex := 50, descriptorIndex := 51, attributes := #[] }, { accessFlags := 10, nameIndex := 386, descriptorIndex := 387, attributes := #[] }, { accessFlags := 9, nameIndex := 587, descriptorIndex := 387, attributes := #[] }, { accessFlags := 9, nameIndex := 392, descriptorIndex := 74, attributes := #[] }, { accessFlags := 9, nameIndex := 140, descriptorIndex := 141, attributes := #[] }, { accessFlags := 9, nameIndex := 69, descriptorIndex := 70, attributes := #[] }, { accessFlags := 9, nameIndex := 98, descriptorIndex := 99, attributes := #[] }, { accessFlags := 9, nameIndex := 175, descriptorIndex := 99, attributes := #[] }] 48 6 #[] #[{ accessFlags := 26, nameIndex := 61, descriptorIndex := 62, attributes := #[] }, { accessFlags := 26, nameIndex := 65, descriptorIndex := 62, attributes := #[] }, { accessFlags := 24, nameIndex := 430, descriptorIndex := 62, attributes := #[] }, { accessFlags := 4120, nameIndex := 46, descriptorIndex := 47, attributes := #[] }])
  fields := #[{ name := "HI_BYTE_SHIFT", type := .int, accessFlags := 26, slot := 0, constantValue := 0 }, { name := "LO_BYTE_SHIFT", type := .int, accessFlags := 26, slot := 1, constantValue := 0 }, { name := "MAX_LENGTH", type := .int, accessFlags := 24, slot := 2, constantValue := 0 }, { name := "$assertionsDisabled", type := .boolean, accessFlags := 4120, slot := 3, constantValue := 0 }]
  methods := #[k24m0, k24m1, k24m2, k24m3, k24m4, k24m5, k24m6, k24m7, k24m8, k24m9, k24m10, k24m11, k24m12]
  instanceTypes := #[]
  staticTypes := #[.int, .int, .int, .boolean]
  resolved := Array.replicate 635 none
  statics := some 3 }

def pool25 : Array CpInfo := pool [(9, u "<init>"), (6, .class_ 18), (1, u "java/lang/Object"), (0, u "()V"), (1, .class_ 23), (1, u "jdk/internal/util/ArraysSupport"), (0, u "LOG2_ARRAY_LONG_INDEX_SCALE"), (0, u "I"), (2, u "U"), (0, u "Ljdk/internal/misc/Unsafe;"), (8, u "BIG_ENDIAN"), (0, u "Z"), (8, u "LOG2_BYTE_BIT_SIZE"), (4, u "LOG2_ARRAY_INT_INDEX_SCALE"), (54, u "JLA"), (0, u "Ljdk/internal/access/JavaLangAccess;"), (11, u "LOG2_ARRAY_BOOLEAN_INDEX_SCALE"), (9, u "LOG2_ARRAY_BYTE_INDEX_SCALE"), (5, u "LOG2_ARRAY_CHAR_INDEX_SCALE"), (5, u "LOG2_ARRAY_SHORT_INDEX_SCALE"), (18, u "LOG2_ARRAY_FLOAT_INDEX_SCALE"), (24, u "LOG2_ARRAY_DOUBLE_INDEX_SCALE"), (6, .methodref 195 196), (0, .class_ 197), (0, .nameAndType 198 199), (0, u "java/lang/Math"), (0, u "max"), (0, u "(II)I"), (0, .integer 2147483639), (76, u "T_BOOLEAN"), (2, u "T_CHAR"), (1, u "T_FLOAT"), (1, u "T_DOUBLE"), (1, u "T_BYTE"), (1, u "T_SHORT"), (1, u "T_INT"), (1, u "T_LONG"), (1, u "SOFT_MAX_ARRAY_LENGTH"), (56, u "newLength"), (0, u "(III)I")] 25

def k25m0 : Method := { name := "<init>", desc := "()V", sig := { parameters := [], returnType := none }, accessFlags := 2, code := none }
def k25c1 : Code := { maxStack := 3, maxLocals := 4, code := jdk_48_method_27_code, exceptionTable := #[], attributes := #[] }
def k25m1 : Method := { name := "newLength", desc := "(III)I", sig := { parameters := [.int, .int, .int], returnType := some .int }, accessFlags := 9, code := some k25c1 }
/-- jdk/internal/util/ArraysSupport -/
def k25 : Class := { plain "jdk/internal/util/ArraysSupport" (some 0) with
  accessFlags := 33
  interfaces := #[]
  cf := some (fileOf pool25 21 #[] #[{ accessFlags := 2, nameIndex := 9, descriptorIndex := 19, attributes := #[] }, { accessFlags := 9, nameIndex := 351, descriptorIndex := 352, attributes := #[] }] 33 16 #[] #[{ accessFlags := 24, nameIndex := 28, descriptorIndex := 29, attributes := #[] }, { accessFlags := 26, nameIndex := 38, descriptorIndex := 39, attributes := #[] }, { accessFlags := 25, nameIndex := 121, descriptorIndex := 25, attributes := #[] }, { accessFlags := 25, nameIndex := 131, descriptorIndex := 25, attributes := #[] }, { accessFlags := 25, nameIndex := 137, descriptorIndex := 25, attributes := #[] }, { accessFlags := 25, nameIndex := 143, descriptorIndex := 25, attributes := #[] }, { accessFlags := 25, nameIndex := 53, descriptorIndex := 25, attributes := #[] }, { accessFlags := 25, nameIndex := 24, descriptorIndex := 25, attributes := #[] }, { accessFlags := 25, nameIndex := 162, descriptorIndex := 25, attributes := #[] }, { accessFlags := 25, nameIndex := 187, descriptorIndex := 25, attributes := #[] }, { accessFlags := 26, nameIndex := 48, descriptorIndex := 25, attributes := #[] }, { accessFlags := 25, nameIndex := 277, descriptorIndex := 25, attributes := #[] }, { accessFlags := 25, nameIndex := 280, descriptorIndex := 25, attributes := #[] }, { accessFlags := 25, nameIndex := 282, descriptorIndex := 25, attributes := #[] }, { accessFlags := 25, nameIndex := 284, descriptorIndex := 25, attributes := #[] }, { accessFlags := 25, nameIndex := 286, descriptorIndex := 25, attributes := #[] }, { accessFlags := 25, nameIndex := 288, descriptorIndex := 25, attributes := #[] }, { accessFlags := 25, nameIndex := 290, descriptorIndex := 25, attributes := #[] }, { accessFlags := 25, nameIndex := 292, descriptorIndex := 25, attributes := #[] }, { accessFlags := 26, nameIndex := 108, descriptorIndex := 109, attributes := #[] }, { accessFlags := 25, nameIndex := 294, descriptorIndex := 25, attributes := #[] }])
  fields := #[{ name := "U", type := (.object "jdk/internal/misc/Unsafe"), accessFlags := 24, slot := 0, constantValue := 0 }, { name := "BIG_ENDIAN", type := .boolean, accessFlags := 26, slot := 1, constantValue := 0 }, { name := "LOG2_ARRAY_BOOLEAN_INDEX_SCALE", type := .int, accessFlags := 25, slot := 2, constantValue := 0 }, { name := "LOG2_ARRAY_BYTE_INDEX_SCALE", type := .int, accessFlags := 25, slot := 3, constantValue := 0 }, { name := "LOG2_ARRAY_CHAR_INDEX_SCALE", type := .int, accessFlags := 25, slot := 4, constantValue := 0 }, { name := "LOG2_ARRAY_SHORT_INDEX_SCALE", type := .int, accessFlags := 25, slot := 5, constantValue := 0 }, { name := "LOG2_ARRAY_INT_INDEX_SCALE", type := .int, accessFlags := 25, slot := 6, constantValue := 0 }, { name := "LOG2_ARRAY_LONG_INDEX_SCALE", type := .int, accessFlags := 25, slot := 7, constantValue := 0 }, { name := "LOG2_ARRAY_FLOAT_INDEX_SCALE", type := .int, accessFlags := 25, slot := 8, constantValue := 0 }, { name := "LOG2_ARRAY_DOUBLE_INDEX_SCALE", type := .int, accessFlags := 25, slot := 9, constantValue := 0 }, { name := "LOG2_BYTE_BIT_SIZE", type := .int, accessFlags := 26, slot := 10, constantValue := 0 }, { name := "T_BOOLEAN", type := .int, accessFlags := 25, slot := 11, constantValue := 0 }, { name := "T_CHAR", type := .int, accessFlags := 25, slot := 12, constantValue := 0 }, { name := "T_FLOAT", type := .int, accessFlags := 25, slot := 13, constantValue := 0 }, { name := "T_DOUBLE", type := .int, accessFlags := 25, slot := 14, constantValue := 0 }, { name := "T_BYTE", type := .int, accessFlags := 25, slot := 15, constantValue := 0 }, { name := "T_SHORT", type := .int, accessFlags := 25, slot := 16, constantValue := 0 }, { name := "T_INT", type := .int, accessFlags := 25, slot := 17, constantValue := 0 }, { name := "T_LONG", type := .int, accessFlags := 25, slot := 18, constantValue := 0 }, { name := "JLA", type := (.object "jdk/internal/access/JavaLangAccess"), accessFlags := 26, slot := 19, constantValue := 0 }, { name := "SOFT_MAX_ARRAY_LENGTH", type := .int, accessFlags := 25, slot := 20, constantValue := 0 }]
  methods := #[k25m0, k25m1]
  instanceTypes := #[]
  staticTypes := #[(.object "jdk/internal/misc/Unsafe"), .boolean, .int, .int, .int, .int, .int, .int, .int, .int, .int, .int, .int, .int, .int, .int, .int, .int, .int, (.object "jdk/internal/access/JavaLangAccess"), .int]
  resolved := Array.replicate 378 none
  statics := none }

def pool26 : Array CpInfo := pool [(1, .class_ 2), (0, u "java/lang/Math"), (1, .class_ 6), (1, u "java/lang/Object"), (0, u "<init>"), (0, u "()V"), (89, .class_ 100), (1, u "java/lang/Math$RandomNumberGeneratorHolder"), (71, u "negativeZeroFloatBits"), (0, u "J"), (2, u "negativeZeroDoubleBits"), (21, u "max"), (2, u "min"), (43, u "$assertionsDisabled"), (0, u "Z"), (88, u "(II)I"), (2, u "twoToTheDoubleScaleDown"), (0, u "D"), (4, u "twoToTheDoubleScaleUp"), (9, u "E"), (3, u "PI"), (2, u "TAU"), (2, u "DEGREES_TO_RADIANS"), (0, u "RADIANS_TO_DEGREES")] 94

def k26m0 : Method := { name := "<init>", desc := "()V", sig := { parameters := [], returnType := none }, accessFlags := 2, code := none }
def k26c1 : Code := { maxStack := 2, maxLocals := 2, code := jdk_29_method_65_code, exceptionTable := #[], attributes := #[] }
def k26m1 : Method := { name := "max", desc := "(II)I", sig := { parameters := [.int, .int], returnType := some .int }, accessFlags := 9, code := some k26c1 }
def k26c2 : Code := { maxStack := 2, maxLocals := 2, code := jdk_29_method_69_code, exceptionTable := #[], attributes := #[] }
def k26m2 : Method := { name := "min", desc := "(II)I", sig := { parameters := [.int, .int], returnType := some .int }, accessFlags := 9, code := some k26c2 }
/-- java/lang/Math -/
def k26 : Class := { plain "java/lang/Math" (some 0) with
  accessFlags := 49
  interfaces := #[]
  cf := some (fileOf pool26 1 #[.nestMembers #[98]] #[{ accessFlags := 2, nameIndex := 7, descriptorIndex := 8, attributes := #[] }, { accessFlags := 9, nameIndex := 198, descriptorIndex := 335, attributes := #[] }, { accessFlags := 9, nameIndex := 201, descriptorIndex := 335, attributes := #[] }] 49 4 #[] #[{ accessFlags := 25, nameIndex := 354, descriptorIndex := 339, attributes := #[] }, { accessFlags := 25, nameIndex := 358, descriptorIndex := 339, attributes := #[] }, { accessFlags := 25, nameIndex := 361, descriptorIndex := 339, attributes := #[] }, { accessFlags := 26, nameIndex := 364, descriptorIndex := 339, attributes := #[] }, { accessFlags := 26, nameIndex := 365, descriptorIndex := 339, attributes := #[] }, { accessFlags := 26, nameIndex := 172, descriptorIndex := 173, attributes := #[] }, { accessFlags := 26, nameIndex := 176, descriptorIndex := 173, attributes := #[] }, { accessFlags := 8, nameIndex := 344, descriptorIndex := 339, attributes := #[] }, { accessFlags := 8, nameIndex := 338, descriptorIndex := 339, attributes := #[] }, { accessFlags := 4120, nameIndex := 245, descriptorIndex := 246, attributes := #[] }])
  fields := #[{ name := "E", type := .double, accessFlags := 25, slot := 0, constantValue := 0 }, { name := "PI", type := .double, accessFlags := 25, slot := 1, constantValue := 0 }, { name := "TAU", type := .double, accessFlags := 25, slot := 2, constantValue := 0 }, { name := "DEGREES_TO_RADIANS", type := .double, accessFlags := 26, slot := 3, constantValue := 0 }, { name := "RADIANS_TO_DEGREES", type := .double, accessFlags := 26, slot := 4, constantValue := 0 }, { name := "negativeZeroFloatBits", type := .long, accessFlags := 26, slot := 5, constantValue := 0 }, { name := "negativeZeroDoubleBits", type := .long, accessFlags := 26, slot := 6, constantValue := 0 }, { name := "twoToTheDoubleScaleUp", type := .double, accessFlags := 8, slot := 7, constantValue := 0 }, { name := "twoToTheDoubleScaleDown", type := .double, accessFlags := 8, slot := 8, constantValue := 0 }, { name := "$assertionsDisabled", type := .boolean, accessFlags := 4120, slot := 9, constantValue := 0 }]
  methods := #[k26m0, k26m1, k26m2]
  instanceTypes := #[]
  staticTypes := #[.double, .double, .double, .double, .double, .long, .long, .double, .double, .boolean]
  resolved := Array.replicate 460 none
  statics := none }

def pool27 : Array CpInfo := pool [(2, .class_ 4), (1, u "java/lang/Object"), (0, u "<init>"), (0, u "()V"), (1, .class_ 10), (1, u "java/lang/System"), (0, u "allowSecurityManager"), (0, u "I"), (16, u "cons"), (0, u "Ljava/io/Console;"), (77, .class_ 110), (1, u "java/lang/System$CallersHolder"), (43, u "initialErrStream"), (0, u "Ljava/io/PrintStream;"), (19, u "security"), (0, u "Ljava/lang/SecurityManager;"), (31, .class_ 209), (0, u "java/lang/System$1"), (7, u "props"), (0, u "Ljava/util/Properties;"), (2, u "lineSeparator"), (0, u "Ljava/lang/String;"), (96, .class_ 321), (1, u "java/lang/System$LoggerFinder"), (5, .class_ 328), (0, u "java/lang/System$Logger"), (67, u "err"), (2, u "out"), (91, u "notSupportedJnuEncoding"), (15, u "in"), (17, u "initialIn"), (0, u "Ljava/io/InputStream;"), (35, u "bootLayer"), (0, u "Ljava/lang/ModuleLayer;"), (99, .class_ 664), (0, u "java/lang/System$2"), (9, u "NEVER"), (2, u "MAYBE"), (49, u "arraycopy"), (0, u "(Ljava/lang/Object;ILjava/lang/Object;II)V"), (72, .class_ 802), (0, u "java/lang/System$Logger$Level")] 31

def k27m0 : Method := { name := "<init>", desc := "()V", sig := { parameters := [], returnType := none }, accessFlags := 2, code := none }
def k27m1 : Method := { name := "arraycopy", desc := "(Ljava/lang/Object;ILjava/lang/Object;II)V", sig := { parameters := [(.object "java/lang/Object"), .int, (.object "java/lang/Object"), .int, .int], returnType := none }, accessFlags := 265, code := none }
/-- java/lang/System -/
def k27 : Class := { plain "java/lang/System" (some 0) with
  accessFlags := 49
  interfaces := #[]
  cf := some (fileOf pool27 8 #[.nestMembers #[319, 327, 801, 108, 663, 208]] #[{ accessFlags := 2, nameIndex := 5, descriptorIndex := 6, attributes := #[] }, { accessFlags := 265, nameIndex := 727, descriptorIndex := 728, attributes := #[] }] 49 2 #[] #[{ accessFlags := 25, nameIndex := 507, descriptorIndex := 526, attributes := #[] }, { accessFlags := 25, nameIndex := 399, descriptorIndex := 155, attributes := #[] }, { accessFlags := 25, nameIndex := 396, descriptorIndex := 155, attributes := #[] }, { accessFlags := 10, nameIndex := 525, descriptorIndex := 526, attributes := #[] }, { accessFlags := 26, nameIndex := 674, descriptorIndex := 12, attributes := #[] }, { accessFlags := 26, nameIndex := 677, descriptorIndex := 12, attributes := #[] }, { accessFlags := 10, nameIndex := 11, descriptorIndex := 12, attributes := #[] }, { accessFlags := 74, nameIndex := 175, descriptorIndex := 176, attributes := #[] }, { accessFlags := 10, nameIndex := 491, descriptorIndex := 222, attributes := #[] }, { accessFlags := 74, nameIndex := 29, descriptorIndex := 30, attributes := #[] }, { accessFlags := 74, nameIndex := 154, descriptorIndex := 155, attributes := #[] }, { accessFlags := 10, nameIndex := 217, descriptorIndex := 218, attributes := #[] }, { accessFlags := 10, nameIndex := 221, descriptorIndex := 222, attributes := #[] }, { accessFlags := 8, nameIndex := 562, descriptorIndex := 563, attributes := #[] }])
  fields := #[{ name := "in", type := (.object "java/io/InputStream"), accessFlags := 25, slot := 0, constantValue := 0 }, { name := "out", type := (.object "java/io/PrintStream"), accessFlags := 25, slot := 1, constantValue := 0 }, { name := "err", type := (.object "java/io/PrintStream"), accessFlags := 25, slot := 2, constantValue := 0 }, { name := "initialIn", type := (.object "java/io/InputStream"), accessFlags := 10, slot := 3, constantValue := 0 }, { name := "NEVER", type := .int, accessFlags := 26, slot := 4, constantValue := 0 }, { name := "MAYBE", type := .int, accessFlags := 26, slot := 5, constantValue := 0 }, { name := "allowSecurityManager", type := .int, accessFlags := 10, slot := 6, constantValue := 0 }, { name := "security", type := (.object "java/lang/SecurityManager"), accessFlags := 74, slot := 7, constantValue := 0 }, { name := "notSupportedJnuEncoding", type := (.object "java/lang/String"), accessFlags := 10, slot := 8, constantValue := 0 }, { name := "cons", type := (.object "java/io/Console"), accessFlags := 74, slot := 9, constantValue := 0 }, { name := "initialErrStream", type := (.object "java/io/PrintStream"), accessFlags := 74, slot := 10, constantValue := 0 }, { name := "props", type := (.object "java/util/Properties"), accessFlags := 10, slot := 11, constantValue := 0 }, { name := "lineSeparator", type := (.object "java/lang/String"), accessFlags := 10, slot := 12, constantValue := 0 }, { name := "bootLayer", type := (.object "java/lang/ModuleLayer"), accessFlags := 8, slot := 13, constantValue := 0 }]
  methods := #[k27m0, k27m1]
  instanceTypes := #[]
  staticTypes := #[(.object "java/io/InputStream"), (.object "java/io/PrintStream"), (.object "java/io/PrintStream"), (.object "java/io/InputStream"), .int, .int, .int, (.object "java/lang/SecurityManager"), (.object "java/lang/String"), (.object "java/io/Console"), (.object "java/io/PrintStream"), (.object "java/util/Properties"), (.object "java/lang/String"), (.object "java/lang/ModuleLayer")]
  resolved := Array.replicate 834 none
  statics := none }

/-- the primitive byte -/
def k28 : Class := { plain "byte" none with kind := .primitive 'B', accessFlags := 0x411 }
/-- [B -/
def k29 : Class := { plain "[B" (some 0) with kind := .array 28 .byte, interfaces := #[16, 3], accessFlags := 1041 }

/-- the primitive char -/
def k30 : Class := { plain "char" none with kind := .primitive 'C', accessFlags := 0x411 }
/-- [C -/
def k31 : Class := { plain "[C" (some 0) with kind := .array 30 .char, interfaces := #[16, 3], accessFlags := 1041 }

/-- [Ljava/lang/Object; -/
def k32 : Class := { plain "[Ljava/lang/Object;" (some 0) with kind := .array 0 (.object "java/lang/Object"), interfaces := #[16, 3], accessFlags := 1041 }

def heap : Heap := #[{ cls := 8, slots := #[.long 0, .int 1, .null, .int 0, .null, .int 0, .int 0], vm := .statics 8 },
  { cls := 17, slots := #[.long 0, .int 0, .ref 4, .ref 5], vm := .statics 17 },
  { cls := 21, slots := #[.null, .null, .null], vm := .statics 21 },
  { cls := 24, slots := #[.int 0, .int 8, .int 0, .int 1], vm := .statics 24 },
  { cls := 32, slots := #[], vm := .none },
  { cls := 32, slots := #[], vm := .none }]
def classes : Array Class := #[k0, k1, k2, k3, k4, k5, k6, k7, k8, k9, k10, k11, k12, k13, k14, k15, k16, k17, k18, k19, k20, k21, k22, k23, k24, k25, k26, k27, k28, k29, k30, k31, k32]
def interned : List (Array UInt16 × Addr) := []
def slotsUsed : Nat := 18
def theMethod : MethodId := ⟨1, 1⟩
def args0 : Array Value := #[.int 65, .int 66, .int 67, .int 257, .int 513]
def aboutOver (below : List Frame) : State where
  vm := { classes := classes, interned := interned.toArray }
  heap := heap
  slotsUsed := slotsUsed
  threads := #[{ frames := .invoking theMethod args0 :: below }]
def below0 : List Frame := [.native { method := ⟨0, 0⟩, args := #[] }]
def about1 : State := aboutOver below0
def p0 : Program := .bare "" "" ""
def e0 : Env := launch0.env 0 0 0
theorem w_frames : about1.frames = Frame.invoking theMethod args0 :: below0 := rfl
set_option maxRecDepth 65536 in
theorem w_args : argsFit about1.vm theMethod args0 = true := by decide +kernel
set_option maxRecDepth 65536 in
theorem w_heap : heapFits about1 = true := by decide +kernel
set_option maxRecDepth 65536 in
theorem w_runnable : about1.curStatus? = some .runnable := by decide +kernel
set_option maxRecDepth 65536 in
theorem w_alone : about1.alone = true := by decide +kernel
set_option maxRecDepth 65536 in
theorem w_named : about1.methodNamed? x = some theMethod := by decide +kernel
set_option maxRecDepth 65536 in
theorem w_hears : about1.hears theMethod below0 = true := by decide +kernel
set_option maxRecDepth 65536 in
theorem w_ripe : about1.ripe theMethod args0 below0 = true := by decide +kernel
theorem w_running : about1.status = .running := rfl
set_option maxRecDepth 65536 in
theorem w_room : about1.hasRoom e0.platform room_1 = true :=
  launch0.hasRoom_least _ room_1 (by decide +kernel) (by decide +kernel) (by decide +kernel) (by decide +kernel) (by decide +kernel) (by decide +kernel)
theorem allAtoms_all (ts : List Jvm.Cond) (a : Array Jvm.Value) (st : Jvm.State) : (allAtoms ts).before a st = ts.all (fun c => c.before a st) := by
  induction ts with
  | nil => rfl
  | cons c t ih =>
    show (Jvm.Cond.and c (allAtoms t)).before a st = _
    rw [Jvm.Cond.before_and, ih, List.all_cons]
def words1 : List Jvm.Cond := Jvm.Cond.code x code maxLocals ret :: tables_1
/-- a 'code' word, met by the world's own term for the bytes: nothing is compared byte by byte -/
theorem code_word {y : MethodName} {bytes : ByteArray} {mx : Nat} {rt : Option FieldType} {a : Array Value} {s : State} {m : MethodId} {meth : Method} {c : Code} (h1 : s.methodNamed? y = some m) (h2 : s.vm.method? m = some meth) (h3 : meth.code = some c) (h4 : c.code = bytes)
    (h5 : (c.maxLocals == mx && c.exceptionTable.isEmpty && decide (c.maxStack ≤ mostOperands) && decide (meth.sig.returnType = rt) && !meth.locks && decide (parseMethodDescriptor y.desc = some meth.sig)) = true) : (Jvm.Cond.code y bytes mx rt).before a s = true := by
  simp only [Bool.and_eq_true, beq_iff_eq, Bool.not_eq_true', decide_eq_true_eq] at h5
  obtain ⟨⟨⟨⟨⟨g1, g2⟩, g3⟩, g4⟩, g5⟩, g6⟩ := h5
  simp [Cond.before, Cond.holds, Cond.value, h1, h2, h3, h4, g1, g2, g3, g4, g5, g6]
def isCode : Jvm.Cond → Bool
  | .code _ _ _ _ => true
  | _ => false
theorem all_split {L : List Jvm.Cond} {P : Jvm.Cond → Bool} (h1 : L.all (fun c => isCode c || P c) = true) (h2 : ∀ c ∈ L.filter isCode, P c = true) : L.all P = true := by
  refine List.all_eq_true.mpr fun c hc => ?_
  have h := List.all_eq_true.mp h1 c hc
  rcases Bool.eq_false_or_eq_true (isCode c) with hi | hi
  · exact h2 c (List.mem_filter.mpr ⟨hc, hi⟩)
  · simpa [hi] using h
set_option maxRecDepth 65536 in
theorem w_c0 : (Jvm.Cond.code x code maxLocals ret).before args0 about1 = true := code_word (m := ⟨1, 1⟩) (meth := k1m1) (c := k1c1) (by decide +kernel) rfl rfl rfl (by decide +kernel)
set_option maxRecDepth 65536 in
theorem w_c1 : (Jvm.Cond.code ({ cls := "java/util/ArrayList", name := "<init>", desc := "()V" } : Jvm.MethodName) jdk_38_method_2_code (1 : Nat) (Option.none : Option Jvm.ClassFile.FieldType)).before args0 about1 = true := code_word (m := ⟨17, 0⟩) (meth := k17m0) (c := k17c0) (by decide +kernel) rfl rfl rfl (by decide +kernel)
set_option maxRecDepth 65536 in
theorem w_c2 : (Jvm.Cond.code ({ cls := "java/util/AbstractList", name := "<init>", desc := "()V" } : Jvm.MethodName) jdk_39_method_1_code (1 : Nat) (Option.none : Option Jvm.ClassFile.FieldType)).before args0 about1 = true := code_word (m := ⟨14, 0⟩) (meth := k14m0) (c := k14c0) (by decide +kernel) rfl rfl rfl (by decide +kernel)
set_option maxRecDepth 65536 in
theorem w_c3 : (Jvm.Cond.code ({ cls := "java/util/AbstractCollection", name := "<init>", desc := "()V" } : Jvm.MethodName) jdk_22_method_1_code (1 : Nat) (Option.none : Option Jvm.ClassFile.FieldType)).before args0 about1 = true := code_word (m := ⟨11, 0⟩) (meth := k11m0) (c := k11c0) (by decide +kernel) rfl rfl rfl (by decide +kernel)
set_option maxRecDepth 65536 in
theorem w_c4 : (Jvm.Cond.code ({ cls := "java/lang/Object", name := "<init>", desc := "()V" } : Jvm.MethodName) object_method_1_code (1 : Nat) (Option.none : Option Jvm.ClassFile.FieldType)).before args0 about1 = true := code_word (m := ⟨0, 0⟩) (meth := k0m0) (c := k0c0) (by decide +kernel) rfl rfl rfl (by decide +kernel)
set_option maxRecDepth 65536 in
theorem w_c5 : (Jvm.Cond.code ({ cls := "com/example/montaje/montaje/xml/XmlElement", name := "<init>", desc := "(Ljava/lang/String;Ljava/lang/String;Ljava/lang/String;ILjava/util/Map;Ljava/util/List;)V" } : Jvm.MethodName) prog_64_method_1_code (7 : Nat) (Option.none : Option Jvm.ClassFile.FieldType)).before args0 about1 = true := code_word (m := ⟨2, 0⟩) (meth := k2m0) (c := k2c0) (by decide +kernel) rfl rfl rfl (by decide +kernel)
set_option maxRecDepth 65536 in
theorem w_c6 : (Jvm.Cond.code ({ cls := "com/example/montaje/montaje/xml/XmlElement", name := "text", desc := "()Ljava/lang/String;" } : Jvm.MethodName) prog_64_method_10_code (1 : Nat) (Option.some (Jvm.ClassFile.FieldType.object "java/lang/String"))).before args0 about1 = true := code_word (m := ⟨2, 1⟩) (meth := k2m1) (c := k2c1) (by decide +kernel) rfl rfl rfl (by decide +kernel)
set_option maxRecDepth 65536 in
theorem w_c7 : (Jvm.Cond.code ({ cls := "java/lang/String", name := "length", desc := "()I" } : Jvm.MethodName) jdk_42_method_54_code (1 : Nat) (Option.some Jvm.ClassFile.FieldType.int)).before args0 about1 = true := code_word (m := ⟨8, 2⟩) (meth := k8m2) (c := k8c2) (by decide +kernel) rfl rfl rfl (by decide +kernel)
set_option maxRecDepth 65536 in
theorem w_c8 : (Jvm.Cond.code ({ cls := "java/lang/String", name := "coder", desc := "()B" } : Jvm.MethodName) jdk_42_method_152_code (1 : Nat) (Option.some Jvm.ClassFile.FieldType.byte)).before args0 about1 = true := code_word (m := ⟨8, 5⟩) (meth := k8m5) (c := k8c5) (by decide +kernel) rfl rfl rfl (by decide +kernel)
set_option maxRecDepth 65536 in
theorem w_c9 : (Jvm.Cond.code ({ cls := "com/example/montaje/montaje/xml/XmlElement", name := "appendText", desc := "([CII)V" } : Jvm.MethodName) prog_64_method_12_code (4 : Nat) (Option.none : Option Jvm.ClassFile.FieldType)).before args0 about1 = true := code_word (m := ⟨2, 2⟩) (meth := k2m2) (c := k2c2) (by decide +kernel) rfl rfl rfl (by decide +kernel)
set_option maxRecDepth 65536 in
theorem w_c10 : (Jvm.Cond.code ({ cls := "java/lang/StringBuilder", name := "<init>", desc := "(I)V" } : Jvm.MethodName) jdk_67_method_2_code (2 : Nat) (Option.none : Option Jvm.ClassFile.FieldType)).before args0 about1 = true := code_word (m := ⟨20, 1⟩) (meth := k20m1) (c := k20c1) (by decide +kernel) rfl rfl rfl (by decide +kernel)
set_option maxRecDepth 65536 in
theorem w_c11 : (Jvm.Cond.code ({ cls := "java/lang/AbstractStringBuilder", name := "<init>", desc := "(I)V" } : Jvm.MethodName) jdk_68_method_2_code (2 : Nat) (Option.none : Option Jvm.ClassFile.FieldType)).before args0 about1 = true := code_word (m := ⟨19, 1⟩) (meth := k19m1) (c := k19c1) (by decide +kernel) rfl rfl rfl (by decide +kernel)
set_option maxRecDepth 65536 in
theorem w_c12 : (Jvm.Cond.code ({ cls := "java/lang/StringBuilder", name := "append", desc := "([CII)Ljava/lang/StringBuilder;" } : Jvm.MethodName) jdk_67_method_12_code (4 : Nat) (Option.some (Jvm.ClassFile.FieldType.object "java/lang/StringBuilder"))).before args0 about1 = true := code_word (m := ⟨20, 2⟩) (meth := k20m2) (c := k20c2) (by decide +kernel) rfl rfl rfl (by decide +kernel)
set_option maxRecDepth 65536 in
theorem w_c13 : (Jvm.Cond.code ({ cls := "java/lang/AbstractStringBuilder", name := "append", desc := "([CII)Ljava/lang/AbstractStringBuilder;" } : Jvm.MethodName) jdk_68_method_29_code (5 : Nat) (Option.some (Jvm.ClassFile.FieldType.object "java/lang/AbstractStringBuilder"))).before args0 about1 = true := code_word (m := ⟨19, 6⟩) (meth := k19m6) (c := k19c6) (by decide +kernel) rfl rfl rfl (by decide +kernel)
set_option maxRecDepth 65536 in
theorem w_c14 : (Jvm.Cond.code ({ cls := "jdk/internal/util/Preconditions", name := "checkFromToIndex", desc := "(IIILjava/util/function/BiFunction;)I" } : Jvm.MethodName) jdk_41_method_12_code (4 : Nat) (Option.some Jvm.ClassFile.FieldType.int)).before args0 about1 = true := code_word (m := ⟨21, 2⟩) (meth := k21m2) (c := k21c2) (by decide +kernel) rfl rfl rfl (by decide +kernel)
set_option maxRecDepth 65536 in
theorem w_c15 : (Jvm.Cond.code ({ cls := "java/lang/AbstractStringBuilder", name := "ensureCapacityInternal", desc := "(I)V" } : Jvm.MethodName) jdk_68_method_9_code (3 : Nat) (Option.none : Option Jvm.ClassFile.FieldType)).before args0 about1 = true := code_word (m := ⟨19, 3⟩) (meth := k19m3) (c := k19c3) (by decide +kernel) rfl rfl rfl (by decide +kernel)
set_option maxRecDepth 65536 in
theorem w_c16 : (Jvm.Cond.code ({ cls := "java/lang/AbstractStringBuilder", name := "appendChars", desc := "([CII)V" } : Jvm.MethodName) jdk_68_method_74_code (9 : Nat) (Option.none : Option Jvm.ClassFile.FieldType)).before args0 about1 = true := code_word (m := ⟨19, 9⟩) (meth := k19m9) (c := k19c9) (by decide +kernel) rfl rfl rfl (by decide +kernel)
set_option maxRecDepth 65536 in
theorem w_c17 : (Jvm.Cond.code ({ cls := "java/lang/AbstractStringBuilder", name := "isLatin1", desc := "()Z" } : Jvm.MethodName) jdk_68_method_68_code (1 : Nat) (Option.some Jvm.ClassFile.FieldType.boolean)).before args0 about1 = true := code_word (m := ⟨19, 8⟩) (meth := k19m8) (c := k19c8) (by decide +kernel) rfl rfl rfl (by decide +kernel)
set_option maxRecDepth 65536 in
theorem w_c18 : (Jvm.Cond.code ({ cls := "java/lang/StringBuilder", name := "toString", desc := "()Ljava/lang/String;" } : Jvm.MethodName) jdk_67_method_42_code (1 : Nat) (Option.some (Jvm.ClassFile.FieldType.object "java/lang/String"))).before args0 about1 = true := code_word (m := ⟨20, 3⟩) (meth := k20m3) (c := k20c3) (by decide +kernel) rfl rfl rfl (by decide +kernel)
set_option maxRecDepth 65536 in
theorem w_c19 : (Jvm.Cond.code ({ cls := "java/lang/String", name := "<init>", desc := "(Ljava/lang/StringBuilder;)V" } : Jvm.MethodName) jdk_42_method_53_code (2 : Nat) (Option.none : Option Jvm.ClassFile.FieldType)).before args0 about1 = true := code_word (m := ⟨8, 1⟩) (meth := k8m1) (c := k8c1) (by decide +kernel) rfl rfl rfl (by decide +kernel)
set_option maxRecDepth 65536 in
theorem w_c20 : (Jvm.Cond.code ({ cls := "java/lang/String", name := "<init>", desc := "(Ljava/lang/AbstractStringBuilder;Ljava/lang/Void;)V" } : Jvm.MethodName) jdk_42_method_150_code (5 : Nat) (Option.none : Option Jvm.ClassFile.FieldType)).before args0 about1 = true := code_word (m := ⟨8, 4⟩) (meth := k8m4) (c := k8c4) (by decide +kernel) rfl rfl rfl (by decide +kernel)
set_option maxRecDepth 65536 in
theorem w_c21 : (Jvm.Cond.code ({ cls := "java/lang/AbstractStringBuilder", name := "getValue", desc := "()[B" } : Jvm.MethodName) jdk_68_method_64_code (1 : Nat) (Option.some (Jvm.ClassFile.FieldType.array Jvm.ClassFile.FieldType.byte))).before args0 about1 = true := code_word (m := ⟨19, 7⟩) (meth := k19m7) (c := k19c7) (by decide +kernel) rfl rfl rfl (by decide +kernel)
set_option maxRecDepth 65536 in
theorem w_c22 : (Jvm.Cond.code ({ cls := "java/lang/StringBuilder", name := "length", desc := "()I" } : Jvm.MethodName) jdk_67_method_93_code (1 : Nat) (Option.some Jvm.ClassFile.FieldType.int)).before args0 about1 = true := code_word (m := ⟨20, 4⟩) (meth := k20m4) (c := k20c4) (by decide +kernel) rfl rfl rfl (by decide +kernel)
set_option maxRecDepth 65536 in
theorem w_c23 : (Jvm.Cond.code ({ cls := "java/lang/AbstractStringBuilder", name := "length", desc := "()I" } : Jvm.MethodName) jdk_68_method_6_code (1 : Nat) (Option.some Jvm.ClassFile.FieldType.int)).before args0 about1 = true := code_word (m := ⟨19, 2⟩) (meth := k19m2) (c := k19c2) (by decide +kernel) rfl rfl rfl (by decide +kernel)
set_option maxRecDepth 65536 in
theorem w_c24 : (Jvm.Cond.code ({ cls := "java/util/Arrays", name := "copyOfRange", desc := "([BII)[B" } : Jvm.MethodName) jdk_65_method_132_code (3 : Nat) (Option.some (Jvm.ClassFile.FieldType.array Jvm.ClassFile.FieldType.byte))).before args0 about1 = true := code_word (m := ⟨22, 3⟩) (meth := k22m3) (c := k22c3) (by decide +kernel) rfl rfl rfl (by decide +kernel)
set_option maxRecDepth 65536 in
theorem w_c25 : (Jvm.Cond.code ({ cls := "com/example/montaje/montaje/xml/XmlElementAppendTextPinLaw", name := "at", desc := "(Ljava/lang/String;I[CII[CII)Z" } : Jvm.MethodName) method_3_code (9 : Nat) (Option.some Jvm.ClassFile.FieldType.boolean)).before args0 about1 = true := code_word (m := ⟨1, 2⟩) (meth := k1m2) (c := k1c2) (by decide +kernel) rfl rfl rfl (by decide +kernel)
set_option maxRecDepth 65536 in
theorem w_c26 : (Jvm.Cond.code ({ cls := "java/lang/StringLatin1", name := "canEncode", desc := "(C)Z" } : Jvm.MethodName) jdk_43_method_3_code (1 : Nat) (Option.some Jvm.ClassFile.FieldType.boolean)).before args0 about1 = true := code_word (m := ⟨23, 2⟩) (meth := k23m2) (c := k23c2) (by decide +kernel) rfl rfl rfl (by decide +kernel)
set_option maxRecDepth 65536 in
theorem w_c27 : (Jvm.Cond.code ({ cls := "java/lang/AbstractStringBuilder", name := "inflate", desc := "()V" } : Jvm.MethodName) jdk_68_method_11_code (2 : Nat) (Option.none : Option Jvm.ClassFile.FieldType)).before args0 about1 = true := code_word (m := ⟨19, 5⟩) (meth := k19m5) (c := k19c5) (by decide +kernel) rfl rfl rfl (by decide +kernel)
set_option maxRecDepth 65536 in
theorem w_c28 : (Jvm.Cond.code ({ cls := "java/lang/StringUTF16", name := "newBytesFor", desc := "(I)[B" } : Jvm.MethodName) jdk_52_method_2_code (1 : Nat) (Option.some (Jvm.ClassFile.FieldType.array Jvm.ClassFile.FieldType.byte))).before args0 about1 = true := code_word (m := ⟨24, 1⟩) (meth := k24m1) (c := k24c1) (by decide +kernel) rfl rfl rfl (by decide +kernel)
set_option maxRecDepth 65536 in
theorem w_c29 : (Jvm.Cond.code ({ cls := "java/lang/StringUTF16", name := "newBytesLength", desc := "(I)I" } : Jvm.MethodName) jdk_52_method_3_code (1 : Nat) (Option.some Jvm.ClassFile.FieldType.int)).before args0 about1 = true := code_word (m := ⟨24, 2⟩) (meth := k24m2) (c := k24c2) (by decide +kernel) rfl rfl rfl (by decide +kernel)
set_option maxRecDepth 65536 in
theorem w_c30 : (Jvm.Cond.code ({ cls := "java/lang/StringLatin1", name := "inflate", desc := "([BI[BII)V" } : Jvm.MethodName) jdk_43_method_50_code (5 : Nat) (Option.none : Option Jvm.ClassFile.FieldType)).before args0 about1 = true := code_word (m := ⟨23, 3⟩) (meth := k23m3) (c := k23c3) (by decide +kernel) rfl rfl rfl (by decide +kernel)
set_option maxRecDepth 65536 in
theorem w_c31 : (Jvm.Cond.code ({ cls := "java/lang/StringUTF16", name := "inflate", desc := "([BI[BII)V" } : Jvm.MethodName) jdk_52_method_86_code (6 : Nat) (Option.none : Option Jvm.ClassFile.FieldType)).before args0 about1 = true := code_word (m := ⟨24, 9⟩) (meth := k24m9) (c := k24c9) (by decide +kernel) rfl rfl rfl (by decide +kernel)
set_option maxRecDepth 65536 in
theorem w_c32 : (Jvm.Cond.code ({ cls := "java/lang/StringUTF16", name := "checkBoundsOffCount", desc := "(II[B)V" } : Jvm.MethodName) jdk_52_method_94_code (3 : Nat) (Option.none : Option Jvm.ClassFile.FieldType)).before args0 about1 = true := code_word (m := ⟨24, 12⟩) (meth := k24m12) (c := k24c12) (by decide +kernel) rfl rfl rfl (by decide +kernel)
set_option maxRecDepth 65536 in
theorem w_c33 : (Jvm.Cond.code ({ cls := "java/lang/StringUTF16", name := "length", desc := "([B)I" } : Jvm.MethodName) jdk_52_method_6_code (1 : Nat) (Option.some Jvm.ClassFile.FieldType.int)).before args0 about1 = true := code_word (m := ⟨24, 5⟩) (meth := k24m5) (c := k24c5) (by decide +kernel) rfl rfl rfl (by decide +kernel)
set_option maxRecDepth 65536 in
theorem w_c34 : (Jvm.Cond.code ({ cls := "java/lang/String", name := "checkBoundsOffCount", desc := "(III)I" } : Jvm.MethodName) jdk_42_method_157_code (3 : Nat) (Option.some Jvm.ClassFile.FieldType.int)).before args0 about1 = true := code_word (m := ⟨8, 8⟩) (meth := k8m8) (c := k8c8) (by decide +kernel) rfl rfl rfl (by decide +kernel)
set_option maxRecDepth 65536 in
theorem w_c35 : (Jvm.Cond.code ({ cls := "jdk/internal/util/Preconditions", name := "checkFromIndexSize", desc := "(IIILjava/util/function/BiFunction;)I" } : Jvm.MethodName) jdk_41_method_13_code (4 : Nat) (Option.some Jvm.ClassFile.FieldType.int)).before args0 about1 = true := code_word (m := ⟨21, 3⟩) (meth := k21m3) (c := k21c3) (by decide +kernel) rfl rfl rfl (by decide +kernel)
set_option maxRecDepth 65536 in
theorem w_c36 : (Jvm.Cond.code ({ cls := "java/lang/StringUTF16", name := "putChar", desc := "([BII)V" } : Jvm.MethodName) jdk_52_method_4_code (3 : Nat) (Option.none : Option Jvm.ClassFile.FieldType)).before args0 about1 = true := code_word (m := ⟨24, 3⟩) (meth := k24m3) (c := k24c3) (by decide +kernel) rfl rfl rfl (by decide +kernel)
set_option maxRecDepth 65536 in
theorem w_c37 : (Jvm.Cond.code ({ cls := "java/lang/StringUTF16", name := "putCharsSB", desc := "([BI[CII)V" } : Jvm.MethodName) jdk_52_method_72_code (5 : Nat) (Option.none : Option Jvm.ClassFile.FieldType)).before args0 about1 = true := code_word (m := ⟨24, 7⟩) (meth := k24m7) (c := k24c7) (by decide +kernel) rfl rfl rfl (by decide +kernel)
set_option maxRecDepth 65536 in
theorem w_c38 : (Jvm.Cond.code ({ cls := "java/lang/StringUTF16", name := "checkBoundsBeginEnd", desc := "(II[B)V" } : Jvm.MethodName) jdk_52_method_93_code (3 : Nat) (Option.none : Option Jvm.ClassFile.FieldType)).before args0 about1 = true := code_word (m := ⟨24, 11⟩) (meth := k24m11) (c := k24c11) (by decide +kernel) rfl rfl rfl (by decide +kernel)
set_option maxRecDepth 65536 in
theorem w_c39 : (Jvm.Cond.code ({ cls := "java/lang/String", name := "checkBoundsBeginEnd", desc := "(III)V" } : Jvm.MethodName) jdk_42_method_158_code (3 : Nat) (Option.none : Option Jvm.ClassFile.FieldType)).before args0 about1 = true := code_word (m := ⟨8, 9⟩) (meth := k8m9) (c := k8c9) (by decide +kernel) rfl rfl rfl (by decide +kernel)
set_option maxRecDepth 65536 in
theorem w_c40 : (Jvm.Cond.code ({ cls := "java/lang/StringUTF16", name := "putChars", desc := "([BI[CII)V" } : Jvm.MethodName) jdk_52_method_68_code (5 : Nat) (Option.none : Option Jvm.ClassFile.FieldType)).before args0 about1 = true := code_word (m := ⟨24, 6⟩) (meth := k24m6) (c := k24c6) (by decide +kernel) rfl rfl rfl (by decide +kernel)
set_option maxRecDepth 65536 in
theorem w_c41 : (Jvm.Cond.code ({ cls := "java/lang/String", name := "charAt", desc := "(I)C" } : Jvm.MethodName) jdk_42_method_56_code (2 : Nat) (Option.some Jvm.ClassFile.FieldType.char)).before args0 about1 = true := code_word (m := ⟨8, 3⟩) (meth := k8m3) (c := k8c3) (by decide +kernel) rfl rfl rfl (by decide +kernel)
set_option maxRecDepth 65536 in
theorem w_c42 : (Jvm.Cond.code ({ cls := "java/lang/String", name := "isLatin1", desc := "()Z" } : Jvm.MethodName) jdk_42_method_154_code (1 : Nat) (Option.some Jvm.ClassFile.FieldType.boolean)).before args0 about1 = true := code_word (m := ⟨8, 6⟩) (meth := k8m6) (c := k8c6) (by decide +kernel) rfl rfl rfl (by decide +kernel)
set_option maxRecDepth 65536 in
theorem w_c43 : (Jvm.Cond.code ({ cls := "java/lang/StringUTF16", name := "charAt", desc := "([BI)C" } : Jvm.MethodName) jdk_52_method_83_code (2 : Nat) (Option.some Jvm.ClassFile.FieldType.char)).before args0 about1 = true := code_word (m := ⟨24, 8⟩) (meth := k24m8) (c := k24c8) (by decide +kernel) rfl rfl rfl (by decide +kernel)
set_option maxRecDepth 65536 in
theorem w_c44 : (Jvm.Cond.code ({ cls := "java/lang/StringUTF16", name := "checkIndex", desc := "(I[B)V" } : Jvm.MethodName) jdk_52_method_91_code (2 : Nat) (Option.none : Option Jvm.ClassFile.FieldType)).before args0 about1 = true := code_word (m := ⟨24, 10⟩) (meth := k24m10) (c := k24c10) (by decide +kernel) rfl rfl rfl (by decide +kernel)
set_option maxRecDepth 65536 in
theorem w_c45 : (Jvm.Cond.code ({ cls := "java/lang/String", name := "checkIndex", desc := "(II)V" } : Jvm.MethodName) jdk_42_method_155_code (2 : Nat) (Option.none : Option Jvm.ClassFile.FieldType)).before args0 about1 = true := code_word (m := ⟨8, 7⟩) (meth := k8m7) (c := k8c7) (by decide +kernel) rfl rfl rfl (by decide +kernel)
set_option maxRecDepth 65536 in
theorem w_c46 : (Jvm.Cond.code ({ cls := "jdk/internal/util/Preconditions", name := "checkIndex", desc := "(IILjava/util/function/BiFunction;)I" } : Jvm.MethodName) jdk_41_method_11_code (3 : Nat) (Option.some Jvm.ClassFile.FieldType.int)).before args0 about1 = true := code_word (m := ⟨21, 1⟩) (meth := k21m1) (c := k21c1) (by decide +kernel) rfl rfl rfl (by decide +kernel)
set_option maxRecDepth 65536 in
theorem w_c47 : (Jvm.Cond.code ({ cls := "java/lang/StringUTF16", name := "getChar", desc := "([BI)C" } : Jvm.MethodName) jdk_52_method_5_code (2 : Nat) (Option.some Jvm.ClassFile.FieldType.char)).before args0 about1 = true := code_word (m := ⟨24, 4⟩) (meth := k24m4) (c := k24c4) (by decide +kernel) rfl rfl rfl (by decide +kernel)
set_option maxRecDepth 65536 in
theorem w_c48 : (Jvm.Cond.code ({ cls := "java/lang/StringLatin1", name := "charAt", desc := "([BI)C" } : Jvm.MethodName) jdk_43_method_2_code (2 : Nat) (Option.some Jvm.ClassFile.FieldType.char)).before args0 about1 = true := code_word (m := ⟨23, 1⟩) (meth := k23m1) (c := k23c1) (by decide +kernel) rfl rfl rfl (by decide +kernel)
set_option maxRecDepth 65536 in
theorem w_c49 : (Jvm.Cond.code ({ cls := "java/lang/AbstractStringBuilder", name := "newCapacity", desc := "(I)I" } : Jvm.MethodName) jdk_68_method_10_code (6 : Nat) (Option.some Jvm.ClassFile.FieldType.int)).before args0 about1 = true := code_word (m := ⟨19, 4⟩) (meth := k19m4) (c := k19c4) (by decide +kernel) rfl rfl rfl (by decide +kernel)
set_option maxRecDepth 65536 in
theorem w_c50 : (Jvm.Cond.code ({ cls := "jdk/internal/util/ArraysSupport", name := "newLength", desc := "(III)I" } : Jvm.MethodName) jdk_48_method_27_code (4 : Nat) (Option.some Jvm.ClassFile.FieldType.int)).before args0 about1 = true := code_word (m := ⟨25, 1⟩) (meth := k25m1) (c := k25c1) (by decide +kernel) rfl rfl rfl (by decide +kernel)
set_option maxRecDepth 65536 in
theorem w_c51 : (Jvm.Cond.code ({ cls := "java/lang/Math", name := "max", desc := "(II)I" } : Jvm.MethodName) jdk_29_method_65_code (2 : Nat) (Option.some Jvm.ClassFile.FieldType.int)).before args0 about1 = true := code_word (m := ⟨26, 1⟩) (meth := k26m1) (c := k26c1) (by decide +kernel) rfl rfl rfl (by decide +kernel)
set_option maxRecDepth 65536 in
theorem w_c52 : (Jvm.Cond.code ({ cls := "java/util/Arrays", name := "copyOf", desc := "([BI)[B" } : Jvm.MethodName) jdk_65_method_121_code (3 : Nat) (Option.some (Jvm.ClassFile.FieldType.array Jvm.ClassFile.FieldType.byte))).before args0 about1 = true := code_word (m := ⟨22, 1⟩) (meth := k22m1) (c := k22c1) (by decide +kernel) rfl rfl rfl (by decide +kernel)
set_option maxRecDepth 65536 in
theorem w_c53 : (Jvm.Cond.code ({ cls := "java/lang/Math", name := "min", desc := "(II)I" } : Jvm.MethodName) jdk_29_method_69_code (2 : Nat) (Option.some Jvm.ClassFile.FieldType.int)).before args0 about1 = true := code_word (m := ⟨26, 2⟩) (meth := k26m2) (c := k26c2) (by decide +kernel) rfl rfl rfl (by decide +kernel)
set_option maxRecDepth 65536 in
theorem w_c54 : (Jvm.Cond.code ({ cls := "java/util/Arrays", name := "copyOfRangeByte", desc := "([BII)[B" } : Jvm.MethodName) jdk_65_method_133_code (5 : Nat) (Option.some (Jvm.ClassFile.FieldType.array Jvm.ClassFile.FieldType.byte))).before args0 about1 = true := code_word (m := ⟨22, 4⟩) (meth := k22m4) (c := k22c4) (by decide +kernel) rfl rfl rfl (by decide +kernel)
set_option maxRecDepth 65536 in
theorem w_c55 : (Jvm.Cond.code ({ cls := "java/util/Arrays", name := "checkLength", desc := "(II)V" } : Jvm.MethodName) jdk_65_method_131_code (2 : Nat) (Option.none : Option Jvm.ClassFile.FieldType)).before args0 about1 = true := code_word (m := ⟨22, 2⟩) (meth := k22m2) (c := k22c2) (by decide +kernel) rfl rfl rfl (by decide +kernel)
def codes1 : List Jvm.Cond := [Jvm.Cond.code x code maxLocals ret, Jvm.Cond.code ({ cls := "java/util/ArrayList", name := "<init>", desc := "()V" } : Jvm.MethodName) jdk_38_method_2_code (1 : Nat) (Option.none : Option Jvm.ClassFile.FieldType), Jvm.Cond.code ({ cls := "java/util/AbstractList", name := "<init>", desc := "()V" } : Jvm.MethodName) jdk_39_method_1_code (1 : Nat) (Option.none : Option Jvm.ClassFile.FieldType), Jvm.Cond.code ({ cls := "java/util/AbstractCollection", name := "<init>", desc := "()V" } : Jvm.MethodName) jdk_22_method_1_code (1 : Nat) (Option.none : Option Jvm.ClassFile.FieldType), Jvm.Cond.code ({ cls := "java/lang/Object", name := "<init>", desc := "()V" } : Jvm.MethodName) object_method_1_code (1 : Nat) (Option.none : Option Jvm.ClassFile.FieldType), Jvm.Cond.code ({ cls := "com/example/montaje/montaje/xml/XmlElement", name := "<init>", desc := "(Ljava/lang/String;Ljava/lang/String;Ljava/lang/String;ILjava/util/Map;Ljava/util/List;)V" } : Jvm.MethodName) prog_64_method_1_code (7 : Nat) (Option.none : Option Jvm.ClassFile.FieldType), Jvm.Cond.code ({ cls := "com/example/montaje/montaje/xml/XmlElement", name := "text", desc := "()Ljava/lang/String;" } : Jvm.MethodName) prog_64_method_10_code (1 : Nat) (Option.some (Jvm.ClassFile.FieldType.object "java/lang/String")), Jvm.Cond.code ({ cls := "java/lang/String", name := "length", desc := "()I" } : Jvm.MethodName) jdk_42_method_54_code (1 : Nat) (Option.some Jvm.ClassFile.FieldType.int), Jvm.Cond.code ({ cls := "java/lang/String", name := "coder", desc := "()B" } : Jvm.MethodName) jdk_42_method_152_code (1 : Nat) (Option.some Jvm.ClassFile.FieldType.byte), Jvm.Cond.code ({ cls := "com/example/montaje/montaje/xml/XmlElement", name := "appendText", desc := "([CII)V" } : Jvm.MethodName) prog_64_method_12_code (4 : Nat) (Option.none : Option Jvm.ClassFile.FieldType), Jvm.Cond.code ({ cls := "java/lang/StringBuilder", name := "<init>", desc := "(I)V" } : Jvm.MethodName) jdk_67_method_2_code (2 : Nat) (Option.none : Option Jvm.ClassFile.FieldType), Jvm.Cond.code ({ cls := "java/lang/AbstractStringBuilder", name := "<init>", desc := "(I)V" } : Jvm.MethodName) jdk_68_method_2_code (2 : Nat) (Option.none : Option Jvm.ClassFile.FieldType), Jvm.Cond.code ({ cls := "java/lang/StringBuilder", name := "append", desc := "([CII)Ljava/lang/StringBuilder;" } : Jvm.MethodName) jdk_67_method_12_code (4 : Nat) (Option.some (Jvm.ClassFile.FieldType.object "java/lang/StringBuilder")), Jvm.Cond.code ({ cls := "java/lang/AbstractStringBuilder", name := "append", desc := "([CII)Ljava/lang/AbstractStringBuilder;" } : Jvm.MethodName) jdk_68_method_29_code (5 : Nat) (Option.some (Jvm.ClassFile.FieldType.object "java/lang/AbstractStringBuilder")), Jvm.Cond.code ({ cls := "jdk/internal/util/Preconditions", name := "checkFromToIndex", desc := "(IIILjava/util/function/BiFunction;)I" } : Jvm.MethodName) jdk_41_method_12_code (4 : Nat) (Option.some Jvm.ClassFile.FieldType.int), Jvm.Cond.code ({ cls := "java/lang/AbstractStringBuilder", name := "ensureCapacityInternal", desc := "(I)V" } : Jvm.MethodName) jdk_68_method_9_code (3 : Nat) (Option.none : Option Jvm.ClassFile.FieldType), Jvm.Cond.code ({ cls := "java/lang/AbstractStringBuilder", name := "appendChars", desc := "([CII)V" } : Jvm.MethodName) jdk_68_method_74_code (9 : Nat) (Option.none : Option Jvm.ClassFile.FieldType), Jvm.Cond.code ({ cls := "java/lang/AbstractStringBuilder", name := "isLatin1", desc := "()Z" } : Jvm.MethodName) jdk_68_method_68_code (1 : Nat) (Option.some Jvm.ClassFile.FieldType.boolean), Jvm.Cond.code ({ cls := "java/lang/StringBuilder", name := "toString", desc := "()Ljava/lang/String;" } : Jvm.MethodName) jdk_67_method_42_code (1 : Nat) (Option.some (Jvm.ClassFile.FieldType.object "java/lang/String")), Jvm.Cond.code ({ cls := "java/lang/String", name := "<init>", desc := "(Ljava/lang/StringBuilder;)V" } : Jvm.MethodName) jdk_42_method_53_code (2 : Nat) (Option.none : Option Jvm.ClassFile.FieldType), Jvm.Cond.code ({ cls := "java/lang/String", name := "<init>", desc := "(Ljava/lang/AbstractStringBuilder;Ljava/lang/Void;)V" } : Jvm.MethodName) jdk_42_method_150_code (5 : Nat) (Option.none : Option Jvm.ClassFile.FieldType), Jvm.Cond.code ({ cls := "java/lang/AbstractStringBuilder", name := "getValue", desc := "()[B" } : Jvm.MethodName) jdk_68_method_64_code (1 : Nat) (Option.some (Jvm.ClassFile.FieldType.array Jvm.ClassFile.FieldType.byte)), Jvm.Cond.code ({ cls := "java/lang/StringBuilder", name := "length", desc := "()I" } : Jvm.MethodName) jdk_67_method_93_code (1 : Nat) (Option.some Jvm.ClassFile.FieldType.int), Jvm.Cond.code ({ cls := "java/lang/AbstractStringBuilder", name := "length", desc := "()I" } : Jvm.MethodName) jdk_68_method_6_code (1 : Nat) (Option.some Jvm.ClassFile.FieldType.int), Jvm.Cond.code ({ cls := "java/util/Arrays", name := "copyOfRange", desc := "([BII)[B" } : Jvm.MethodName) jdk_65_method_132_code (3 : Nat) (Option.some (Jvm.ClassFile.FieldType.array Jvm.ClassFile.FieldType.byte)), Jvm.Cond.code ({ cls := "com/example/montaje/montaje/xml/XmlElementAppendTextPinLaw", name := "at", desc := "(Ljava/lang/String;I[CII[CII)Z" } : Jvm.MethodName) method_3_code (9 : Nat) (Option.some Jvm.ClassFile.FieldType.boolean), Jvm.Cond.code ({ cls := "java/lang/StringLatin1", name := "canEncode", desc := "(C)Z" } : Jvm.MethodName) jdk_43_method_3_code (1 : Nat) (Option.some Jvm.ClassFile.FieldType.boolean), Jvm.Cond.code ({ cls := "java/lang/AbstractStringBuilder", name := "inflate", desc := "()V" } : Jvm.MethodName) jdk_68_method_11_code (2 : Nat) (Option.none : Option Jvm.ClassFile.FieldType), Jvm.Cond.code ({ cls := "java/lang/StringUTF16", name := "newBytesFor", desc := "(I)[B" } : Jvm.MethodName) jdk_52_method_2_code (1 : Nat) (Option.some (Jvm.ClassFile.FieldType.array Jvm.ClassFile.FieldType.byte)), Jvm.Cond.code ({ cls := "java/lang/StringUTF16", name := "newBytesLength", desc := "(I)I" } : Jvm.MethodName) jdk_52_method_3_code (1 : Nat) (Option.some Jvm.ClassFile.FieldType.int), Jvm.Cond.code ({ cls := "java/lang/StringLatin1", name := "inflate", desc := "([BI[BII)V" } : Jvm.MethodName) jdk_43_method_50_code (5 : Nat) (Option.none : Option Jvm.ClassFile.FieldType), Jvm.Cond.code ({ cls := "java/lang/StringUTF16", name := "inflate", desc := "([BI[BII)V" } : Jvm.MethodName) jdk_52_method_86_code (6 : Nat) (Option.none : Option Jvm.ClassFile.FieldType), Jvm.Cond.code ({ cls := "java/lang/StringUTF16", name := "checkBoundsOffCount", desc := "(II[B)V" } : Jvm.MethodName) jdk_52_method_94_code (3 : Nat) (Option.none : Option Jvm.ClassFile.FieldType), Jvm.Cond.code ({ cls := "java/lang/StringUTF16", name := "length", desc := "([B)I" } : Jvm.MethodName) jdk_52_method_6_code (1 : Nat) (Option.some Jvm.ClassFile.FieldType.int), Jvm.Cond.code ({ cls := "java/lang/String", name := "checkBoundsOffCount", desc := "(III)I" } : Jvm.MethodName) jdk_42_method_157_code (3 : Nat) (Option.some Jvm.ClassFile.FieldType.int), Jvm.Cond.code ({ cls := "jdk/internal/util/Preconditions", name := "checkFromIndexSize", desc := "(IIILjava/util/function/BiFunction;)I" } : Jvm.MethodName) jdk_41_method_13_code (4 : Nat) (Option.some Jvm.ClassFile.FieldType.int), Jvm.Cond.code ({ cls := "java/lang/StringUTF16", name := "putChar", desc := "([BII)V" } : Jvm.MethodName) jdk_52_method_4_code (3 : Nat) (Option.none : Option Jvm.ClassFile.FieldType), Jvm.Cond.code ({ cls := "java/lang/StringUTF16", name := "putCharsSB", desc := "([BI[CII)V" } : Jvm.MethodName) jdk_52_method_72_code (5 : Nat) (Option.none : Option Jvm.ClassFile.FieldType), Jvm.Cond.code ({ cls := "java/lang/StringUTF16", name := "checkBoundsBeginEnd", desc := "(II[B)V" } : Jvm.MethodName) jdk_52_method_93_code (3 : Nat) (Option.none : Option Jvm.ClassFile.FieldType), Jvm.Cond.code ({ cls := "java/lang/String", name := "checkBoundsBeginEnd", desc := "(III)V" } : Jvm.MethodName) jdk_42_method_158_code (3 : Nat) (Option.none : Option Jvm.ClassFile.FieldType), Jvm.Cond.code ({ cls := "java/lang/StringUTF16", name := "putChars", desc := "([BI[CII)V" } : Jvm.MethodName) jdk_52_method_68_code (5 : Nat) (Option.none : Option Jvm.ClassFile.FieldType), Jvm.Cond.code ({ cls := "java/lang/String", name := "charAt", desc := "(I)C" } : Jvm.MethodName) jdk_42_method_56_code (2 : Nat) (Option.some Jvm.ClassFile.FieldType.char), Jvm.Cond.code ({ cls := "java/lang/String", name := "isLatin1", desc := "()Z" } : Jvm.MethodName) jdk_42_method_154_code (1 : Nat) (Option.some Jvm.ClassFile.FieldType.boolean), Jvm.Cond.code ({ cls := "java/lang/StringUTF16", name := "charAt", desc := "([BI)C" } : Jvm.MethodName) jdk_52_method_83_code (2 : Nat) (Option.some Jvm.ClassFile.FieldType.char), Jvm.Cond.code ({ cls := "java/lang/StringUTF16", name := "checkIndex", desc := "(I[B)V" } : Jvm.MethodName) jdk_52_method_91_code (2 : Nat) (Option.none : Option Jvm.ClassFile.FieldType), Jvm.Cond.code ({ cls := "java/lang/String", name := "checkIndex", desc := "(II)V" } : Jvm.MethodName) jdk_42_method_155_code (2 : Nat) (Option.none : Option Jvm.ClassFile.FieldType), Jvm.Cond.code ({ cls := "jdk/internal/util/Preconditions", name := "checkIndex", desc := "(IILjava/util/function/BiFunction;)I" } : Jvm.MethodName) jdk_41_method_11_code (3 : Nat) (Option.some Jvm.ClassFile.FieldType.int), Jvm.Cond.code ({ cls := "java/lang/StringUTF16", name := "getChar", desc := "([BI)C" } : Jvm.MethodName) jdk_52_method_5_code (2 : Nat) (Option.some Jvm.ClassFile.FieldType.char), Jvm.Cond.code ({ cls := "java/lang/StringLatin1", name := "charAt", desc := "([BI)C" } : Jvm.MethodName) jdk_43_method_2_code (2 : Nat) (Option.some Jvm.ClassFile.FieldType.char), Jvm.Cond.code ({ cls := "java/lang/AbstractStringBuilder", name := "newCapacity", desc := "(I)I" } : Jvm.MethodName) jdk_68_method_10_code (6 : Nat) (Option.some Jvm.ClassFile.FieldType.int), Jvm.Cond.code ({ cls := "jdk/internal/util/ArraysSupport", name := "newLength", desc := "(III)I" } : Jvm.MethodName) jdk_48_method_27_code (4 : Nat) (Option.some Jvm.ClassFile.FieldType.int), Jvm.Cond.code ({ cls := "java/lang/Math", name := "max", desc := "(II)I" } : Jvm.MethodName) jdk_29_method_65_code (2 : Nat) (Option.some Jvm.ClassFile.FieldType.int), Jvm.Cond.code ({ cls := "java/util/Arrays", name := "copyOf", desc := "([BI)[B" } : Jvm.MethodName) jdk_65_method_121_code (3 : Nat) (Option.some (Jvm.ClassFile.FieldType.array Jvm.ClassFile.FieldType.byte)), Jvm.Cond.code ({ cls := "java/lang/Math", name := "min", desc := "(II)I" } : Jvm.MethodName) jdk_29_method_69_code (2 : Nat) (Option.some Jvm.ClassFile.FieldType.int), Jvm.Cond.code ({ cls := "java/util/Arrays", name := "copyOfRangeByte", desc := "([BII)[B" } : Jvm.MethodName) jdk_65_method_133_code (5 : Nat) (Option.some (Jvm.ClassFile.FieldType.array Jvm.ClassFile.FieldType.byte)), Jvm.Cond.code ({ cls := "java/util/Arrays", name := "checkLength", desc := "(II)V" } : Jvm.MethodName) jdk_65_method_131_code (2 : Nat) (Option.none : Option Jvm.ClassFile.FieldType)]
set_option maxRecDepth 65536 in
theorem codes_eq : words1.filter isCode = codes1 := rfl
theorem w_codes : ∀ c ∈ words1.filter isCode, c.before args0 about1 = true := by
  rw [codes_eq]
  intro c hc
  simp only [codes1, List.mem_cons, List.not_mem_nil, or_false] at hc
  rcases hc with rfl | rfl | rfl | rfl | rfl | rfl | rfl | rfl | rfl | rfl | rfl | rfl | rfl | rfl | rfl | rfl | rfl | rfl | rfl | rfl | rfl | rfl | rfl | rfl | rfl | rfl | rfl | rfl | rfl | rfl | rfl | rfl | rfl | rfl | rfl | rfl | rfl | rfl | rfl | rfl | rfl | rfl | rfl | rfl | rfl | rfl | rfl | rfl | rfl | rfl | rfl | rfl | rfl | rfl | rfl | rfl
  · exact w_c0
  · exact w_c1
  · exact w_c2
  · exact w_c3
  · exact w_c4
  · exact w_c5
  · exact w_c6
  · exact w_c7
  · exact w_c8
  · exact w_c9
  · exact w_c10
  · exact w_c11
  · exact w_c12
  · exact w_c13
  · exact w_c14
  · exact w_c15
  · exact w_c16
  · exact w_c17
  · exact w_c18
  · exact w_c19
  · exact w_c20
  · exact w_c21
  · exact w_c22
  · exact w_c23
  · exact w_c24
  · exact w_c25
  · exact w_c26
  · exact w_c27
  · exact w_c28
  · exact w_c29
  · exact w_c30
  · exact w_c31
  · exact w_c32
  · exact w_c33
  · exact w_c34
  · exact w_c35
  · exact w_c36
  · exact w_c37
  · exact w_c38
  · exact w_c39
  · exact w_c40
  · exact w_c41
  · exact w_c42
  · exact w_c43
  · exact w_c44
  · exact w_c45
  · exact w_c46
  · exact w_c47
  · exact w_c48
  · exact w_c49
  · exact w_c50
  · exact w_c51
  · exact w_c52
  · exact w_c53
  · exact w_c54
  · exact w_c55
set_option maxRecDepth 65536 in
theorem w_t1 : (words1.take 24).all (fun c => isCode c || c.before args0 about1) = true := by decide +kernel
set_option maxRecDepth 65536 in
theorem w_t2 : ((words1.drop 24).take 24).all (fun c => isCode c || c.before args0 about1) = true := by decide +kernel
set_option maxRecDepth 65536 in
theorem w_t3 : (((words1.drop 24).drop 24).take 24).all (fun c => isCode c || c.before args0 about1) = true := by decide +kernel
set_option maxRecDepth 65536 in
theorem w_t4 : ((((words1.drop 24).drop 24).drop 24).take 24).all (fun c => isCode c || c.before args0 about1) = true := by decide +kernel
set_option maxRecDepth 65536 in
theorem w_t5 : (((((words1.drop 24).drop 24).drop 24).drop 24).take 24).all (fun c => isCode c || c.before args0 about1) = true := by decide +kernel
set_option maxRecDepth 65536 in
theorem w_t6 : ((((((words1.drop 24).drop 24).drop 24).drop 24).drop 24).take 24).all (fun c => isCode c || c.before args0 about1) = true := by decide +kernel
set_option maxRecDepth 65536 in
theorem w_t7 : (((((((words1.drop 24).drop 24).drop 24).drop 24).drop 24).drop 24).take 24).all (fun c => isCode c || c.before args0 about1) = true := by decide +kernel
set_option maxRecDepth 65536 in
theorem w_t8 : ((((((((words1.drop 24).drop 24).drop 24).drop 24).drop 24).drop 24).drop 24).take 24).all (fun c => isCode c || c.before args0 about1) = true := by decide +kernel
set_option maxRecDepth 65536 in
theorem w_t9 : (((((((((words1.drop 24).drop 24).drop 24).drop 24).drop 24).drop 24).drop 24).drop 24).take 24).all (fun c => isCode c || c.before args0 about1) = true := by decide +kernel
set_option maxRecDepth 65536 in
theorem w_t10 : ((((((((((words1.drop 24).drop 24).drop 24).drop 24).drop 24).drop 24).drop 24).drop 24).drop 24).take 24).all (fun c => isCode c || c.before args0 about1) = true := by decide +kernel
set_option maxRecDepth 65536 in
theorem w_t11 : (((((((((((words1.drop 24).drop 24).drop 24).drop 24).drop 24).drop 24).drop 24).drop 24).drop 24).drop 24).take 24).all (fun c => isCode c || c.before args0 about1) = true := by decide +kernel
set_option maxRecDepth 65536 in
theorem w_t12 : ((((((((((((words1.drop 24).drop 24).drop 24).drop 24).drop 24).drop 24).drop 24).drop 24).drop 24).drop 24).drop 24).take 24).all (fun c => isCode c || c.before args0 about1) = true := by decide +kernel
set_option maxRecDepth 65536 in
theorem w_t13 : ((((((((((((words1.drop 24).drop 24).drop 24).drop 24).drop 24).drop 24).drop 24).drop 24).drop 24).drop 24).drop 24).drop 24).all (fun c => isCode c || c.before args0 about1) = true := by decide +kernel
theorem w_tables : (allAtoms (Jvm.Cond.code x code maxLocals ret :: tables_1)).before args0 about1 = true := by
  rw [allAtoms_all]
  show words1.all (fun c => c.before args0 about1) = true
  refine all_split ?_ w_codes
  rw [← List.take_append_drop 24 words1, List.all_append, w_t1, ← List.take_append_drop 24 (words1.drop 24), List.all_append, w_t2, ← List.take_append_drop 24 ((words1.drop 24).drop 24), List.all_append, w_t3, ← List.take_append_drop 24 (((words1.drop 24).drop 24).drop 24), List.all_append, w_t4, ← List.take_append_drop 24 ((((words1.drop 24).drop 24).drop 24).drop 24), List.all_append, w_t5, ← List.take_append_drop 24 (((((words1.drop 24).drop 24).drop 24).drop 24).drop 24), List.all_append, w_t6, ← List.take_append_drop 24 ((((((words1.drop 24).drop 24).drop 24).drop 24).drop 24).drop 24), List.all_append, w_t7, ← List.take_append_drop 24 (((((((words1.drop 24).drop 24).drop 24).drop 24).drop 24).drop 24).drop 24), List.all_append, w_t8, ← List.take_append_drop 24 ((((((((words1.drop 24).drop 24).drop 24).drop 24).drop 24).drop 24).drop 24).drop 24), List.all_append, w_t9, ← List.take_append_drop 24 (((((((((words1.drop 24).drop 24).drop 24).drop 24).drop 24).drop 24).drop 24).drop 24).drop 24), List.all_append, w_t10, ← List.take_append_drop 24 ((((((((((words1.drop 24).drop 24).drop 24).drop 24).drop 24).drop 24).drop 24).drop 24).drop 24).drop 24), List.all_append, w_t11, ← List.take_append_drop 24 (((((((((((words1.drop 24).drop 24).drop 24).drop 24).drop 24).drop 24).drop 24).drop 24).drop 24).drop 24).drop 24), List.all_append, w_t12, w_t13]
  rfl
set_option maxRecDepth 65536 in
theorem w_rest : rest_1_c.before args0 about1 = true := by decide +kernel
set_option maxRecDepth 65536 in
theorem w_case : (Jvm.Cond.and given_1 narrow_1).before args0 about1 = true := by decide +kernel
set_option maxRecDepth 65536 in
theorem w_consts : constsHeld consts_1 about1 := Jvm.Lit.constsHeldB_iff.mp (by decide +kernel)
theorem w_applies : (headSpec (Jvm.Cond.code x code maxLocals ret :: tables_1) room_1).applies x e0.platform about1 = true :=
  (Spec.applies_iff w_frames).mpr ⟨w_running, w_runnable, w_alone, w_named, w_hears, w_ripe, w_room, w_tables⟩
theorem atStart : AtStart classFile x code maxLocals ret World_1 tables_1 room_1 Calls_1 rest_1 Pre_1 launch0 p0 e0 about1 theMethod args0 below0 :=
  ⟨lists_1, trivial, launch0.admits_env _ _ _, launch0.least_env, fairChoices_fair.cas, fairChoices_fair.clock, w_frames, w_args, w_heap, w_applies, ⟨w_consts, trivial⟩, w_rest, w_case⟩
end start1
theorem witness_1 : WitnessClaimed_1 := ⟨start1.p0, start1.e0, start1.about1, start1.theMethod, start1.args0, start1.below0, start1.atStart⟩
end Jvm.Pilot.@@N@@
