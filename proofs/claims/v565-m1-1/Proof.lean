import JvmDerived
import JvmDerived.Pilot.@@N@@Statement
import JvmDerived.Pilot.@@N@@Code
set_option linter.unusedVariables false
set_option linter.unusedSimpArgs false
namespace Jvm.Wk
open Jvm Jvm.ClassFile Sem Op Lib Bundle Jvm.Free Jvm.Stand Jvm.LawKit Jvm.RoadKit
abbrev Fd : Type := String × String × String × Value
abbrev Desc : Type := (String × List Fd) ⊕ (String × FieldType × List Value)
abbrev Ent : Type := Addr × Bool × Desc
def sl (Z : State) (f : Fd) : Nat := Jvm.RoadKit.slotOf Z f.1 f.2.1 f.2.2.1
def Dist (Z : State) : Desc → Prop
  | .inl (_, fs) => (fs.map (sl Z)).Pairwise (fun x y => x ≠ y)
  | .inr _ => True
def Sat (Z : State) (h : Heap) (a : Addr) : Desc → Prop
  | .inl (C, fs) => Exa Z h a C ∧ ∀ f ∈ fs, Fld Z h a f.1 f.2.1 f.2.2.1 f.2.2.2
  | .inr (ad, ty, vs) => ∃ c : Cell, Arr Z h a c ty ∧ c.slots = vs.toArray ∧ vs.length < 2147483648 ∧ (∀ v ∈ vs, fits ty v = true) ∧ (ad ≠ "" → Exa Z h a ad)
def Apart (x y : Ent) : Prop := (x.2.1 = true ∨ y.2.1 = true) → x.1 ≠ y.1
def Hp (Z : State) (EL : Bool × List (String × Nat)) (D : List Ent) (vm : Vm) (h : Heap) : Prop :=
  Ext Z.heap h ∧ CHv Z EL.2 vm h ∧ (∀ x ∈ D, Sat Z h x.1 x.2.2 ∧ (x.2.1 = true → Z.heap.size ≤ x.1 ∧ Safe Z EL.2 vm h x.1 ∧ Dist Z x.2.2)) ∧ D.Pairwise Apart
section Facts
variable {Z : State} {EL : Bool × List (String × Nat)} {D D' : List Ent} {vm vm1 : Vm} {h h' : Heap} {a b : Addr} {d d' : Desc} {s1 : Nat} {v : Value} {x y : Ent}
theorem Sat.ext (E : Ext h h') (S : Sat Z h a d) : Sat Z h' a d := by
  match d, S with
  | .inl (C, fs), S => exact ⟨S.1.ext E, fun f hf => (S.2 f hf).ext E⟩
  | .inr (ad, ty, vs), S => obtain ⟨c, A, r1, r2, r3, r4⟩ := S; exact ⟨c, A.ext E, r1, r2, r3, fun q => (r4 q).ext E⟩
theorem Sat.keep {ws : List Addr} (K : Keep h h' ws) (q : a ∉ ws) (S : Sat Z h a d) : Sat Z h' a d := by
  match d, S with
  | .inl (C, fs), S => exact ⟨S.1.keep K, fun f hf => (S.2 f hf).keep K q⟩
  | .inr (ad, ty, vs), S => obtain ⟨c, A, r1, r2, r3, r4⟩ := S; exact ⟨c, ⟨K.2.1 _ _ A.1 q, A.2⟩, r1, r2, r3, fun q => (r4 q).keep K⟩
theorem Sat.lt (S : Sat Z h a d) : a < h.size := by
  match d, S with
  | .inl (C, fs), S => exact S.1.lt
  | .inr (ad, ty, vs), S => obtain ⟨c, A, -⟩ := S; exact A.lt
theorem Apart.symm (q : Apart x y) : Apart y x := fun r e => q r.symm e.symm
theorem Hp.perm (P : D.Perm D') (H : Hp Z EL D vm h) : Hp Z EL D' vm h :=
  ⟨H.1, H.2.1, fun x hx => H.2.2.1 x (P.mem_iff.mpr hx), (P.pairwise_iff (fun q => Apart.symm q)).mp H.2.2.2⟩
theorem perm_front {α : Type} : ∀ (D : List α) (i : Nat) (x : α), D[i]? = some x → D.Perm (x :: D.eraseIdx i)
  | [], _, _, q => by simp at q
  | y :: D, 0, x, q => by simp at q; subst q; exact List.Perm.refl _
  | y :: D, i + 1, x, q => by
    have q' : D[i]? = some x := by simpa using q
    exact ((perm_front D i x q').cons y).trans (List.Perm.swap x y _)
theorem perm_set {α : Type} : ∀ (D : List α) (i : Nat) (x x' : α), D[i]? = some x → (D.set i x').Perm (x' :: D.eraseIdx i)
  | [], _, _, _, q => by simp at q
  | y :: D, 0, x, x', q => List.Perm.refl _
  | y :: D, i + 1, x, x', q => by
    have q' : D[i]? = some x := by simpa using q
    exact ((perm_set D i x x' q').cons y).trans (List.Perm.swap x' y _)
theorem Hp.new (H : Hp Z EL D vm h) (E : Ext h h') (S : Sat Z h' h.size d) (dd : Dist Z d) : Hp Z EL ((h.size, true, d) :: D) vm h' := by
  obtain ⟨h1, h2, h3, h4⟩ := H
  refine ⟨⟨Nat.le_trans h1.1 E.1, fun a c q => E.2 _ _ (h1.2 _ _ q)⟩, h2.ext E, fun x hx => ?_, List.pairwise_cons.mpr ⟨fun y hy _ => ?_, h4⟩⟩
  · rcases List.mem_cons.mp hx with rfl | hx
    · exact ⟨S, fun _ => ⟨h1.1, Safe.ext E h2 (Safe.new (Nat.le_refl _)), dd⟩⟩
    · exact ⟨(h3 x hx).1.ext E, fun w => ⟨((h3 x hx).2 w).1, Safe.ext E h2 ((h3 x hx).2 w).2.1, ((h3 x hx).2 w).2.2⟩⟩
  · have := (h3 y hy).1.lt
    exact fun e => by rw [← e] at this; exact Nat.lt_irrefl _ this
theorem Hp.keepHead (H : Hp Z EL ((a, true, d) :: D) vm h) (K : Keep h h' [a]) (S : Sat Z h' a d') (dd : Dist Z d') : Hp Z EL ((a, true, d') :: D) vm h' := by
  obtain ⟨h1, h2, h3, h4⟩ := H
  obtain ⟨g1, g2, -⟩ := (h3 _ (List.mem_cons_self ..)).2 rfl
  have hs : ∀ x ∈ [a], Safe Z EL.2 vm h x := fun x hx => by cases List.mem_singleton.mp hx; exact g2
  obtain ⟨p1, p2⟩ := List.pairwise_cons.mp h4
  refine ⟨⟨Nat.le_trans h1.1 K.1, fun b c q => K.2.1 _ _ (h1.2 _ _ q) fun z => ?_⟩, h2.keep K hs, fun x hx => ?_, List.pairwise_cons.mpr ⟨fun y hy r => p1 y hy (Or.inl rfl), p2⟩⟩
  · cases List.mem_singleton.mp z
    exact Nat.lt_irrefl _ (Nat.lt_of_lt_of_le (Array.getElem?_eq_some_iff.mp q).1 g1)
  · rcases List.mem_cons.mp hx with rfl | hx
    · exact ⟨S, fun _ => ⟨g1, Safe.keep K hs h2 g2, dd⟩⟩
    · have ne : x.1 ∉ [a] := fun z => p1 x hx (Or.inl rfl) (List.mem_singleton.mp z).symm
      have hx' := h3 x (List.mem_cons_of_mem _ hx)
      exact ⟨hx'.1.keep K ne, fun w => ⟨(hx'.2 w).1, Safe.keep K hs h2 (hx'.2 w).2.1, (hx'.2 w).2.2⟩⟩
theorem Hp.keepSet {i : Nat} (H : Hp Z EL D vm h) (hi : D[i]? = some (a, true, d)) (K : Keep h h' [a]) (S : Sat Z h' a d') (dd : Dist Z d') : Hp Z EL (D.set i (a, true, d')) vm h' :=
  ((H.perm (perm_front D i _ hi)).keepHead K S dd).perm (perm_set D i _ _ hi).symm
theorem Hp.toVm (H : Hp Z EL D vm h) (C : CHr Z EL.2 vm h vm1 h) : Hp Z EL D vm1 h :=
  ⟨H.1, C.1, fun x hx => ⟨(H.2.2.1 x hx).1, fun w => ⟨((H.2.2.1 x hx).2 w).1, C.safe (H.2.2.1 x hx).1.lt ((H.2.2.1 x hx).2 w).2.1, ((H.2.2.1 x hx).2 w).2.2⟩⟩, H.2.2.2⟩
theorem Hp.sub (H : Hp Z EL D vm h) (q : D'.Sublist D) : Hp Z EL D' vm h := ⟨H.1, H.2.1, fun x hx => H.2.2.1 x (q.subset hx), H.2.2.2.sublist q⟩
theorem Hp.grown (H : Hp Z EL D vm h) (E : Ext h h') (C : CHr Z EL.2 vm h vm1 h') : Hp Z EL D vm1 h' :=
  ⟨⟨Nat.le_trans H.1.1 E.1, fun a c q => E.2 _ _ (H.1.2 _ _ q)⟩, C.1, fun x hx => ⟨(H.2.2.1 x hx).1.ext E, fun w => ⟨((H.2.2.1 x hx).2 w).1, C.safe (H.2.2.1 x hx).1.lt ((H.2.2.1 x hx).2 w).2.1, ((H.2.2.1 x hx).2 w).2.2⟩⟩, H.2.2.2⟩
theorem Hp.read (H : Hp Z EL D vm h) (S : Sat Z h a d) (ne : ∀ x, Safe Z EL.2 vm h x → Z.heap.size ≤ x → x ≠ a) : Hp Z EL ((a, false, d) :: D) vm h := by
  refine ⟨H.1, H.2.1, fun x hx => ?_, List.pairwise_cons.mpr ⟨fun y hy r e => ?_, H.2.2.2⟩⟩
  · rcases List.mem_cons.mp hx with rfl | hx
    · exact ⟨S, fun w => by cases w⟩
    · exact H.2.2.1 x hx
  · rcases r with r | r
    · cases r
    · exact ne y.1 ((H.2.2.1 y hy).2 r).2.1 ((H.2.2.1 y hy).2 r).1 e.symm
theorem Sat.of_arv {ad : String} {ty : FieldType} {vs : List Value} {k : ClassId} {z : Int32} {dv : Value} (A : Arv Z h a k ty z vs dv) (hl : z.toNatClampNeg = vs.length) (hE : ad ≠ "" → Exa Z h a ad) : Sat Z h a (.inr (ad, ty, vs)) := by
  obtain ⟨c, A, r1, r2, r3, r4, r5⟩ := A
  have hs : c.slots.size = vs.length := r2.trans hl
  refine ⟨c, A, ?_, ?_, fun v hv => ?_, hE⟩
  · apply Array.ext_getElem?
    intro i
    by_cases hi : i < vs.length
    · rw [r4 i (by omega)]; simp [hi]
    · rw [Array.getElem?_eq_none (by omega), Array.getElem?_eq_none (by simpa using Nat.le_of_not_lt hi)]
  · have := (back32 r3).2; omega
  · obtain ⟨i, hi, rfl⟩ := List.mem_iff_getElem.mp hv
    have := r5 i (by omega)
    simpa [hi] using this
end Facts
def Idx (j : Int32) (i : Nat) : Prop := ¬ j < 0 ∧ j.toNatClampNeg = i
theorem Idx.of_nat {i : Nat} (hi : i < 2147483648) : Idx (Nat.toInt32 i) i := by
  have e1 : (Nat.toInt32 i).toInt = i := len_toInt hi
  refine ⟨fun q => ?_, by simp [Int32.toNatClampNeg, e1]⟩
  rw [Int32.lt_iff_toInt_lt, e1] at q
  have : (0 : Int32).toInt = 0 := rfl
  omega
theorem Idx.toInt {j : Int32} {i : Nat} (q : Idx j i) : j.toInt = i := by
  have h1 : ¬ j.toInt < 0 := fun r => q.1 (by rw [Int32.lt_iff_toInt_lt]; exact r)
  have h2 := q.2
  simp only [Int32.toNatClampNeg] at h2
  omega
end Jvm.Wk
namespace Jvm.Wk
open Jvm Jvm.ClassFile Sem Op Lib Bundle Jvm.Free Jvm.Stand Jvm.LawKit Jvm.RoadKit
def ELok (Z : State) (EL : Bool × List (String × Nat)) : Prop := (∃ a0, EW Z a0 EL.2) ∧ (EL.1 = true → EL.2 = [])
def Res (Z : State) (EL : Bool × List (String × Nat)) (Q : Option Value → List Ent → Prop) (R : Room) (s : State) (o : Outcome) (t : State) : Prop :=
  ∃ v L, o = .returned v ∧ Fr Z.heap.size L ∧ (∃ D', Hp Z EL D' t.vm t.heap ∧ Q v D') ∧ ReturnedEndW s o t L R.cells R.slots ∧ (EL.1 = true → s.WarmedH t.vm)
def Here (Z : State) (EL : Bool × List (String × Nat)) (R : Room) (own nm : String) (bytes : ByteArray) (ml : Nat) (ret : Option FieldType) (D : List Ent) (k n : Nat)
    (p : Program) (l : Launch) (e : Env) (s : State) (m : MethodId) (args : Array Value) (below : List Frame) (meth : Method) (c : Code) (T : State) (vm0 : Vm) (k0 : Nat) (locs : List Loc) (cells slots : Nat) : Prop :=
  Stand p l e R (s.setVm vm0) m args below meth c T locs cells slots ∧ s.Since vm0 k0 ∧ k0 ≤ T.heap.size ∧ p.tables.exec = Jvm.exec ∧ c.code = bytes ∧ c.maxLocals = ml ∧ vm0.findClass own = some m.cls ∧ Z.Warmed39 vm0 ∧
    meth.sig.returnType = ret ∧ meth.locks = false ∧ meth.name = nm ∧ Fr Z.heap.size locs ∧ Hp Z EL D vm0 T.heap ∧ cells ≤ k ∧ slots ≤ n ∧ ELok Z EL ∧ (EL.1 = true → vm0 = s.vm)
def W (Z : State) (EL : Bool × List (String × Nat)) (R : Room) (own nm : String) (bytes : ByteArray) (ml : Nat) (ret : Option FieldType) (Q : Option Value → List Ent → Prop) (D : List Ent) (k n : Nat) (pc : Nat) (ls : Array Slot) (st : List Value) : Prop :=
  ∀ p l e s m args below meth c T vm0 k0 locs cells slots, Here Z EL R own nm bytes ml ret D k n p l e s m args below meth c T vm0 k0 locs cells slots →
    ∃ s₂ o, Steps p.tables e below (T.setTop (mkF m pc ls st)) s₂ ∧ s₂.status = .running ∧ Ended s₂ below o ∧ Res Z EL Q R s o s₂
def Con (Z : State) (EL : Bool × List (String × Nat)) (y : MethodName) (bytes : ByteArray) (maxL : Nat) (ret : Option FieldType) (rm : Room) (as : List Value) (D : List Ent) (Q : Option Value → List Ent → Prop) : Prop :=
  ELok Z EL → ∀ (l : Launch) (ws : List Cond), MetFree l y (head1 (Cond.code y bytes maxL ret :: ws) rm) (fun a U => a = as.toArray ∧ Z.Warmed39 U.vm ∧ Hp Z EL D U.vm U.heap) (fun _ _ _ _ _ => True) (fun _ U o U' => Res Z EL Q rm U o U')
def SlOk (t : Slot) : Prop := t = .unset ∨ ∃ v : Value, t = .val v ∧ v.category = 1
theorem store_ok {l l' : Array Slot} {i : Nat} {t : Slot} {v : Value} (ht : SlOk t) (h : l[i]? = some t) (h' : storeSelf l i v = some l') : storeLocals l i v = some l' := by
  unfold storeLocals
  rcases ht with rfl | ⟨w, rfl, hw⟩
  · simp only [h, Option.bind_eq_bind, Option.bind_some]; exact h'
  · simp only [h, Option.bind_eq_bind, Option.bind_some]; rw [if_neg (by rw [hw]; decide)]; exact h'
theorem ld0 : Jvm.Sym.laidSlots [] = [] := rfl
theorem ld1 {v : Value} {vs : List Value} {L : List Slot} (h : v.category = 1) (e : Jvm.Sym.laidSlots vs = L) : Jvm.Sym.laidSlots (v :: vs) = .val v :: L := by simp [Jvm.Sym.laidSlots, h, e]
theorem hent_of {as : List Value} {L : List Slot} {ml : Nat} {ls : Array Slot} (e : Jvm.Sym.laidSlots as = L) (h : L ++ List.replicate (ml - L.length) .unset = ls.toList) : Jvm.Sym.laidSlots as ++ List.replicate (ml - (Jvm.Sym.laidSlots as).length) .unset = ls.toList := by rw [e]; exact h
section Walk
variable {Z : State} {EL : Bool × List (String × Nat)} {R : Room} {own nm : String} {bytes : ByteArray} {ml : Nat} {ret : Option FieldType} {Q : Option Value → List Ent → Prop} {D D' : List Ent} {k n pc : Nat} {ls ls' : Array Slot} {st : List Value} {a0 : Array Value}
theorem Con.of {y : MethodName} {as : List Value} (hpl : plainFor y = true) (hent : Jvm.Sym.laidSlots as ++ List.replicate (ml - (Jvm.Sym.laidSlots as).length) .unset = ls.toList) (hW : W Z EL R y.cls y.name bytes ml ret Q D 0 0 0 ls []) : Con Z EL y bytes ml ret R as D Q := by
  intro hE l ws
  refine MetFree.of_bodySF hpl hisR ?_
  intro p e s m args below meth c s₁ Bd hml0 hP hK
  obtain ⟨rfl, hZ, hh⟩ := hP
  have X0 : Stand p l e R s m as.toArray below meth c s₁ [] 0 0 := Stand.of_body Bd
  have e0 : s₁.heap = s.heap := by rw [Bd.state]; rfl
  have hown : s.vm.findClass y.cls = some m.cls := findClass_of_methodNamed Bd.named
  have hnm := (name_of_methodNamed Bd.named Bd.method).1
  obtain ⟨s₂, o, h1, r⟩ := hW p l e s m as.toArray below meth c s₁ s.vm 0 [] 0 0
    ⟨X0, (State.WarmedH.refl s).since 0, Nat.zero_le _, Bd.exec, Bd.bytes, hml0, hown, hZ, Bd.returns, Bd.notSynchronized, hnm, Fr.nil _, by rw [e0]; exact hh, Nat.le_refl _, Nat.le_refl _, hE, fun _ => rfl⟩
  exact ⟨s₂, o, (XT.entry (by simpa using hent)).trans h1, r⟩
theorem W.pure {pc' : Nat} {st' : List Value} (H : ∀ {p : Program} {e : Env} {below : List Frame} {T target : State} {m : MethodId} {c : Code}, At T m c below → p.tables.exec = Jvm.exec → c.code = bytes → Steps p.tables e below (T.setTop (mkF m pc' ls' st')) target → Steps p.tables e below (T.setTop (mkF m pc ls st)) target)
    (next : W Z EL R own nm bytes ml ret Q D k n pc' ls' st') : W Z EL R own nm bytes ml ret Q D k n pc ls st := by
  intro p l e s m args below meth c T vm0 k0 locs cells slots A
  obtain ⟨s₂, o, h1, r⟩ := next p l e s m args below meth c T vm0 k0 locs cells slots A
  exact ⟨s₂, o, H A.1.here A.2.2.2.1 A.2.2.2.2.1 h1, r⟩
theorem W.mono {k' n' : Nat} (hk : k ≤ k') (hn : n ≤ n') (next : W Z EL R own nm bytes ml ret Q D k' n' pc ls st) : W Z EL R own nm bytes ml ret Q D k n pc ls st := by
  intro p l e s m args below meth c T vm0 k0 locs cells slots A
  obtain ⟨X, hS, hk0, hx, hby, hml, hown, hZ, r1, r2, r3, hN, hH, hc, hl, hE, hNI⟩ := A
  exact next p l e s m args below meth c T vm0 k0 locs cells slots ⟨X, hS, hk0, hx, hby, hml, hown, hZ, r1, r2, r3, hN, hH, Nat.le_trans hc hk, Nat.le_trans hl hn, hE, hNI⟩
theorem W.heap (H : ∀ vm h, Hp Z EL D vm h → Hp Z EL D' vm h) (next : W Z EL R own nm bytes ml ret Q D' k n pc ls st) : W Z EL R own nm bytes ml ret Q D k n pc ls st := by
  intro p l e s m args below meth c T vm0 k0 locs cells slots A
  obtain ⟨X, hS, hk0, hx, hby, hml, hown, hZ, r1, r2, r3, hN, hH, hc, hl, hE, hNI⟩ := A
  exact next p l e s m args below meth c T vm0 k0 locs cells slots ⟨X, hS, hk0, hx, hby, hml, hown, hZ, r1, r2, r3, hN, H _ _ hH, hc, hl, hE, hNI⟩
theorem W.know {P : Prop} (H : ∀ vm h, Hp Z EL D vm h → P) (next : P → W Z EL R own nm bytes ml ret Q D k n pc ls st) : W Z EL R own nm bytes ml ret Q D k n pc ls st := by
  intro p l e s m args below meth c T vm0 k0 locs cells slots A
  exact next (H _ _ A.2.2.2.2.2.2.2.2.2.2.2.2.1) p l e s m args below meth c T vm0 k0 locs cells slots A
theorem W.perm (P : D.Perm D') (next : W Z EL R own nm bytes ml ret Q D' k n pc ls st) : W Z EL R own nm bytes ml ret Q D k n pc ls st := W.heap (fun _ _ H => H.perm P) next
theorem W.front (i : Nat) {x : Ent} (hi : D[i]? = some x) (hD : x :: D.eraseIdx i = D') (next : W Z EL R own nm bytes ml ret Q D' k n pc ls st) : W Z EL R own nm bytes ml ret Q D k n pc ls st := W.perm (hD ▸ perm_front D i x hi) next
theorem W.aload (i : Nat) {v : Value} (hd : decode bytes pc = .ok (.aload i, 2)) (hl : ls[i]? = some (.val v)) (hv : v.isRef = true) (next : W Z EL R own nm bytes ml ret Q D k n (pc + 2) ls (v :: st)) : W Z EL R own nm bytes ml ret Q D k n pc ls st :=
  W.pure (fun h hx hc hr => XS.aload (g := mkF _ pc ls st) h hx rfl (hb hc hd) hl hv hr) next
theorem W.aloadN {i : Fin 4} {v : Value} (hd : decode bytes pc = .ok (.aload_n i, 1)) (hl : ls[i.val]? = some (.val v)) (hv : v.isRef = true) (next : W Z EL R own nm bytes ml ret Q D k n (pc + 1) ls (v :: st)) : W Z EL R own nm bytes ml ret Q D k n pc ls st :=
  W.pure (fun h hx hc hr => XS.aloadN (g := mkF _ pc ls st) h hx rfl (hb hc hd) hl hv hr) next
theorem W.iload {i : Nat} {v : Int32} (hd : decode bytes pc = .ok (.iload i, 2)) (hl : ls[i]? = some (.val (.int v))) (next : W Z EL R own nm bytes ml ret Q D k n (pc + 2) ls (.int v :: st)) : W Z EL R own nm bytes ml ret Q D k n pc ls st :=
  W.pure (fun h hx hc hr => XS.iload (g := mkF _ pc ls st) h hx rfl (hb hc hd) hl hr) next
theorem W.iloadN {i : Fin 4} {v : Int32} (hd : decode bytes pc = .ok (.iload_n i, 1)) (hl : ls[i.val]? = some (.val (.int v))) (next : W Z EL R own nm bytes ml ret Q D k n (pc + 1) ls (.int v :: st)) : W Z EL R own nm bytes ml ret Q D k n pc ls st :=
  W.pure (fun h hx hc hr => XS.iloadN (g := mkF _ pc ls st) h hx rfl (hb hc hd) hl hr) next
theorem W.astore {i : Nat} {v : Value} (hd : decode bytes pc = .ok (.astore i, 2)) (hv : v.isRef = true) (hl : storeLocals ls i v = some ls') (next : W Z EL R own nm bytes ml ret Q D k n (pc + 2) ls' st) : W Z EL R own nm bytes ml ret Q D k n pc ls (v :: st) :=
  W.pure (fun h hx hc hr => XS.astore (g := mkF _ pc ls (v :: st)) h hx rfl (hb hc hd) rfl hv hl hr) next
theorem W.astoreN {i : Fin 4} {v : Value} (hd : decode bytes pc = .ok (.astore_n i, 1)) (hv : v.isRef = true) (hl : storeLocals ls i.val v = some ls') (next : W Z EL R own nm bytes ml ret Q D k n (pc + 1) ls' st) : W Z EL R own nm bytes ml ret Q D k n pc ls (v :: st) :=
  W.pure (fun h hx hc hr => XS.astoreN (g := mkF _ pc ls (v :: st)) h hx rfl (hb hc hd) rfl hv hl hr) next
theorem W.istore {i : Nat} {v : Int32} (hd : decode bytes pc = .ok (.istore i, 2)) (hl : storeLocals ls i (.int v) = some ls') (next : W Z EL R own nm bytes ml ret Q D k n (pc + 2) ls' st) : W Z EL R own nm bytes ml ret Q D k n pc ls (.int v :: st) :=
  W.pure (fun h hx hc hr => XS.istore (g := mkF _ pc ls (.int v :: st)) h hx rfl (hb hc hd) rfl hl hr) next
theorem W.istoreN {i : Fin 4} {v : Int32} (hd : decode bytes pc = .ok (.istore_n i, 1)) (hl : storeLocals ls i.val (.int v) = some ls') (next : W Z EL R own nm bytes ml ret Q D k n (pc + 1) ls' st) : W Z EL R own nm bytes ml ret Q D k n pc ls (.int v :: st) :=
  W.pure (fun h hx hc hr => XS.istoreN (g := mkF _ pc ls (.int v :: st)) h hx rfl (hb hc hd) rfl hl hr) next
theorem W.iconst {i : Int} (v : Int32) (hd : decode bytes pc = .ok (.iconst i, 1)) (hv : Int32.ofInt i = v) (next : W Z EL R own nm bytes ml ret Q D k n (pc + 1) ls (.int v :: st)) : W Z EL R own nm bytes ml ret Q D k n pc ls st :=
  W.pure (fun h hx hc hr => XT.iconstV (g := mkF _ pc ls st) h hx rfl v (hb hc hd) hv hr) next
theorem W.bipush {i : Int} (v : Int32) (hd : decode bytes pc = .ok (.bipush i, 2)) (hv : (Int8.ofInt i).toInt32 = v) (next : W Z EL R own nm bytes ml ret Q D k n (pc + 2) ls (.int v :: st)) : W Z EL R own nm bytes ml ret Q D k n pc ls st :=
  W.pure (fun h hx hc hr => XT.bipushV (g := mkF _ pc ls st) h hx rfl v (hb hc hd) hv hr) next
theorem W.sipush {i : Int} (v : Int32) (hd : decode bytes pc = .ok (.sipush i, 3)) (hv : (Int16.ofInt i).toInt32 = v) (next : W Z EL R own nm bytes ml ret Q D k n (pc + 3) ls (.int v :: st)) : W Z EL R own nm bytes ml ret Q D k n pc ls st :=
  W.pure (fun h hx hc hr => XT.sipushV (g := mkF _ pc ls st) h hx rfl v (hb hc hd) hv hr) next
theorem W.aconstNull (hd : decode bytes pc = .ok (.aconst_null, 1)) (next : W Z EL R own nm bytes ml ret Q D k n (pc + 1) ls (.null :: st)) : W Z EL R own nm bytes ml ret Q D k n pc ls st :=
  W.pure (fun h hx hc hr => XS.aconstNull (g := mkF _ pc ls st) h hx rfl (hb hc hd) hr) next
theorem W.iinc {i : Nat} {cst : Int} {x : Int32} (v : Int32) (hd : decode bytes pc = .ok (.iinc i cst, 3)) (hv : Int32.ofInt cst = v) (hl : ls[i]? = some (.val (.int x))) (hl' : storeLocals ls i (.int (x + v)) = some ls') (next : W Z EL R own nm bytes ml ret Q D k n (pc + 3) ls' st) : W Z EL R own nm bytes ml ret Q D k n pc ls st :=
  W.pure (fun h hx hc hr => XT.iincV (g := mkF _ pc ls st) h hx rfl v (hb hc hd) hv hl hl' hr) next
theorem W.popv {x : Value} (hd : decode bytes pc = .ok (.pop, 1)) (hc1 : x.category = 1) (next : W Z EL R own nm bytes ml ret Q D k n (pc + 1) ls st) : W Z EL R own nm bytes ml ret Q D k n pc ls (x :: st) :=
  W.pure (fun h hx hc hr => XT.pop (g := mkF _ pc ls (x :: st)) h hx rfl (hb hc hd) rfl hc1 hr) next
theorem W.dup {x : Value} (hd : decode bytes pc = .ok (.dup, 1)) (hc1 : x.category = 1) (next : W Z EL R own nm bytes ml ret Q D k n (pc + 1) ls (x :: x :: st)) : W Z EL R own nm bytes ml ret Q D k n pc ls (x :: st) :=
  W.pure (fun h hx hc hr => XS.dup (g := mkF _ pc ls (x :: st)) h hx rfl (hb hc hd) rfl hc1 hr) next
theorem W.isub {x y : Int32} (hd : decode bytes pc = .ok (.isub, 1)) (next : W Z EL R own nm bytes ml ret Q D k n (pc + 1) ls (.int (x - y) :: st)) : W Z EL R own nm bytes ml ret Q D k n pc ls (.int y :: .int x :: st) :=
  W.pure (fun h hx hc hr => XS.isub (g := mkF _ pc ls (.int y :: .int x :: st)) h hx rfl (hb hc hd) rfl hr) next
theorem W.irem {x y : Int32} (hd : decode bytes pc = .ok (.irem, 1)) (hy : y ≠ 0) (next : W Z EL R own nm bytes ml ret Q D k n (pc + 1) ls (.int (x % y) :: st)) : W Z EL R own nm bytes ml ret Q D k n pc ls (.int y :: .int x :: st) := by
  intro p l e s m args below meth c T vm0 k0 locs cells slots A
  obtain ⟨s₂, o, h1, r⟩ := next p l e s m args below meth c T vm0 k0 locs cells slots A
  exact ⟨s₂, o, iremM (g := mkF m pc ls (.int y :: .int x :: st)) A.1 A.2.2.2.1 rfl (hb A.2.2.2.2.1 hd) rfl hy h1, r⟩
theorem W.iand {x y : Int32} (hd : decode bytes pc = .ok (.iand, 1)) (next : W Z EL R own nm bytes ml ret Q D k n (pc + 1) ls (.int (x &&& y) :: st)) : W Z EL R own nm bytes ml ret Q D k n pc ls (.int y :: .int x :: st) :=
  W.pure (fun h hx hc hr => XS.iand (g := mkF _ pc ls (.int y :: .int x :: st)) h hx rfl (hb hc hd) rfl hr) next
theorem W.iushr {x y : Int32} (hd : decode bytes pc = .ok (.iushr, 1)) (next : W Z EL R own nm bytes ml ret Q D k n (pc + 1) ls (.int (XT.ushr x y) :: st)) : W Z EL R own nm bytes ml ret Q D k n pc ls (.int y :: .int x :: st) :=
  W.pure (fun h hx hc hr => XT.iushr (g := mkF _ pc ls (.int y :: .int x :: st)) h hx rfl (hb hc hd) rfl hr) next
theorem W.i2b {x : Int32} (hd : decode bytes pc = .ok (.i2b, 1)) (next : W Z EL R own nm bytes ml ret Q D k n (pc + 1) ls (.int x.toInt8.toInt32 :: st)) : W Z EL R own nm bytes ml ret Q D k n pc ls (.int x :: st) :=
  W.pure (fun h hx hc hr => XT.i2b (g := mkF _ pc ls (.int x :: st)) h hx rfl (hb hc hd) rfl hr) next
theorem W.i2c {x : Int32} (hd : decode bytes pc = .ok (.i2c, 1)) (next : W Z EL R own nm bytes ml ret Q D k n (pc + 1) ls (.int x.toUInt32.toUInt16.toUInt32.toInt32 :: st)) : W Z EL R own nm bytes ml ret Q D k n pc ls (.int x :: st) :=
  W.pure (fun h hx hc hr => XT.i2c (g := mkF _ pc ls (.int x :: st)) h hx rfl (hb hc hd) rfl hr) next
theorem W.goto (pc' : Nat) {o : Int} (hd : decode bytes pc = .ok (.goto o, 3)) (ho : 0 ≤ (pc : Int) + o ∧ ((pc : Int) + o).toNat = pc') (next : W Z EL R own nm bytes ml ret Q D k n pc' ls st) : W Z EL R own nm bytes ml ret Q D k n pc ls st :=
  W.pure (fun h hx hc hr => XS.goto (g := mkF _ pc ls st) h hx rfl rfl (hb hc hd) ho.1 ho.2 hr) next
def Cd : ClassFile.Cond → Int32 → Int32 → Prop
  | .eq, x, y => x = y
  | .ne, x, y => ¬ x = y
  | .lt, x, y => x < y
  | .ge, x, y => ¬ x < y
  | .gt, x, y => y < x
  | .le, x, y => ¬ y < x
theorem Cd.yes {cd : ClassFile.Cond} {x y : Int32} (q : Cd cd x y) : if_icmp.holds cd x y = true := by
  cases cd <;> first | exact (teq q).1 | exact (feq q).2 | exact (tlt q).1 | exact (flt q).2.1 | exact (tlt q).2.2.1 | exact (flt q).2.2.2
theorem Cd.no {cd : ClassFile.Cond} {x y : Int32} (q : ¬ Cd cd x y) : if_icmp.holds cd x y = false := by
  cases cd <;> first | exact (feq q).1 | exact (teq (Classical.not_not.mp q)).2 | exact (flt q).1 | exact (tlt (Classical.not_not.mp q)).2.1 | exact (flt q).2.2.1 | exact (tlt (Classical.not_not.mp q)).2.2.2
theorem W.icmpY (pc' : Nat) {cd : ClassFile.Cond} {x y : Int32} {o : Int} (hd : decode bytes pc = .ok (.if_icmp cd o, 3)) (q : Cd cd x y) (ho : 0 ≤ (pc : Int) + o ∧ ((pc : Int) + o).toNat = pc') (next : W Z EL R own nm bytes ml ret Q D k n pc' ls st) : W Z EL R own nm bytes ml ret Q D k n pc ls (.int y :: .int x :: st) :=
  W.pure (fun h hx hc hr => XS.icmpYes (g := mkF _ pc ls (.int y :: .int x :: st)) h hx rfl rfl (hb hc hd) rfl q.yes ho.1 ho.2 hr) next
theorem W.icmpN {cd : ClassFile.Cond} {x y : Int32} {o : Int} (hd : decode bytes pc = .ok (.if_icmp cd o, 3)) (q : ¬ Cd cd x y) (next : W Z EL R own nm bytes ml ret Q D k n (pc + 3) ls st) : W Z EL R own nm bytes ml ret Q D k n pc ls (.int y :: .int x :: st) :=
  W.pure (fun h hx hc hr => XS.icmpNo (g := mkF _ pc ls (.int y :: .int x :: st)) h hx rfl (hb hc hd) rfl (Cd.no q) hr) next
theorem W.icmp (pc' : Nat) {cd : ClassFile.Cond} {x y : Int32} {o : Int} (hd : decode bytes pc = .ok (.if_icmp cd o, 3)) (ho : 0 ≤ (pc : Int) + o ∧ ((pc : Int) + o).toNat = pc') (nextY : Cd cd x y → W Z EL R own nm bytes ml ret Q D k n pc' ls st) (nextN : ¬ Cd cd x y → W Z EL R own nm bytes ml ret Q D k n (pc + 3) ls st) : W Z EL R own nm bytes ml ret Q D k n pc ls (.int y :: .int x :: st) := by
  by_cases q : Cd cd x y
  · exact W.icmpY pc' hd q ho (nextY q)
  · exact W.icmpN hd q (nextN q)
theorem W.ifY (pc' : Nat) {cd : ClassFile.Cond} {x : Int32} {o : Int} (hd : decode bytes pc = .ok (.ifCond cd o, 3)) (q : Cd cd x 0) (ho : 0 ≤ (pc : Int) + o ∧ ((pc : Int) + o).toNat = pc') (next : W Z EL R own nm bytes ml ret Q D k n pc' ls st) : W Z EL R own nm bytes ml ret Q D k n pc ls (.int x :: st) :=
  W.pure (fun h hx hc hr => XS.ifYes (g := mkF _ pc ls (.int x :: st)) h hx rfl rfl (hb hc hd) rfl ((if0 _ _).trans q.yes) ho.1 ho.2 hr) next
theorem W.ifN {cd : ClassFile.Cond} {x : Int32} {o : Int} (hd : decode bytes pc = .ok (.ifCond cd o, 3)) (q : ¬ Cd cd x 0) (next : W Z EL R own nm bytes ml ret Q D k n (pc + 3) ls st) : W Z EL R own nm bytes ml ret Q D k n pc ls (.int x :: st) :=
  W.pure (fun h hx hc hr => XS.ifNo (g := mkF _ pc ls (.int x :: st)) h hx rfl (hb hc hd) rfl ((if0 _ _).trans (Cd.no q)) hr) next
theorem W.if (pc' : Nat) {cd : ClassFile.Cond} {x : Int32} {o : Int} (hd : decode bytes pc = .ok (.ifCond cd o, 3)) (ho : 0 ≤ (pc : Int) + o ∧ ((pc : Int) + o).toNat = pc') (nextY : Cd cd x 0 → W Z EL R own nm bytes ml ret Q D k n pc' ls st) (nextN : ¬ Cd cd x 0 → W Z EL R own nm bytes ml ret Q D k n (pc + 3) ls st) : W Z EL R own nm bytes ml ret Q D k n pc ls (.int x :: st) := by
  by_cases q : Cd cd x 0
  · exact W.ifY pc' hd q ho (nextY q)
  · exact W.ifN hd q (nextN q)
theorem W.ifnullN {o : Int} {a : Addr} (hd : decode bytes pc = .ok (.ifnull o, 3)) (next : W Z EL R own nm bytes ml ret Q D k n (pc + 3) ls st) : W Z EL R own nm bytes ml ret Q D k n pc ls (.ref a :: st) :=
  W.pure (fun h hx hc hr => XS.ifnullNo (g := mkF _ pc ls (.ref a :: st)) h hx rfl (hb hc hd) rfl hr) next
theorem W.ifnonnullY (pc' : Nat) {o : Int} {a : Addr} (hd : decode bytes pc = .ok (.ifnonnull o, 3)) (ho : 0 ≤ (pc : Int) + o ∧ ((pc : Int) + o).toNat = pc') (next : W Z EL R own nm bytes ml ret Q D k n pc' ls st) : W Z EL R own nm bytes ml ret Q D k n pc ls (.ref a :: st) :=
  W.pure (fun h hx hc hr => XT.ifnonnullYes (g := mkF _ pc ls (.ref a :: st)) h hx rfl rfl (hb hc hd) rfl ho.1 ho.2 hr) next
theorem W.ifnonnullN {o : Int} (hd : decode bytes pc = .ok (.ifnonnull o, 3)) (next : W Z EL R own nm bytes ml ret Q D k n (pc + 3) ls st) : W Z EL R own nm bytes ml ret Q D k n pc ls (.null :: st) :=
  W.pure (fun h hx hc hr => XT.ifnonnullNo (g := mkF _ pc ls (.null :: st)) h hx rfl (hb hc hd) rfl hr) next
def Ca : ClassFile.ACond → Value → Value → Prop
  | .eq, x, y => x = y
  | .ne, x, y => ¬ x = y
theorem Ca.yes {cd : ClassFile.ACond} {x y : Value} (q : Ca cd x y) : XT.acmp cd x y = true := by
  cases cd
  · exact XT.aa_eq_t q
  · exact XT.aa_ne_t q
theorem Ca.no {cd : ClassFile.ACond} {x y : Value} (q : ¬ Ca cd x y) : XT.acmp cd x y = false := by
  cases cd
  · exact XT.aa_eq_f q
  · exact XT.aa_ne_f (Classical.not_not.mp q)
theorem W.acmpY (pc' : Nat) {cd : ClassFile.ACond} {x y : Value} {o : Int} (hd : decode bytes pc = .ok (.if_acmp cd o, 3)) (hx1 : x.isRef = true) (hy1 : y.isRef = true) (q : Ca cd x y) (ho : 0 ≤ (pc : Int) + o ∧ ((pc : Int) + o).toNat = pc') (next : W Z EL R own nm bytes ml ret Q D k n pc' ls st) : W Z EL R own nm bytes ml ret Q D k n pc ls (y :: x :: st) :=
  W.pure (fun h hx hc hr => XT.acmpYes (g := mkF _ pc ls (y :: x :: st)) h hx rfl rfl (hb hc hd) rfl hx1 hy1 q.yes ho.1 ho.2 hr) next
theorem W.acmpN {cd : ClassFile.ACond} {x y : Value} {o : Int} (hd : decode bytes pc = .ok (.if_acmp cd o, 3)) (hx1 : x.isRef = true) (hy1 : y.isRef = true) (q : ¬ Ca cd x y) (next : W Z EL R own nm bytes ml ret Q D k n (pc + 3) ls st) : W Z EL R own nm bytes ml ret Q D k n pc ls (y :: x :: st) :=
  W.pure (fun h hx hc hr => XT.acmpNo (g := mkF _ pc ls (y :: x :: st)) h hx rfl (hb hc hd) rfl hx1 hy1 (Ca.no q) hr) next
theorem W.acmp (pc' : Nat) {cd : ClassFile.ACond} {x y : Value} {o : Int} (hd : decode bytes pc = .ok (.if_acmp cd o, 3)) (hx1 : x.isRef = true) (hy1 : y.isRef = true) (ho : 0 ≤ (pc : Int) + o ∧ ((pc : Int) + o).toNat = pc') (nextY : Ca cd x y → W Z EL R own nm bytes ml ret Q D k n pc' ls st) (nextN : ¬ Ca cd x y → W Z EL R own nm bytes ml ret Q D k n (pc + 3) ls st) : W Z EL R own nm bytes ml ret Q D k n pc ls (y :: x :: st) := by
  by_cases q : Ca cd x y
  · exact W.acmpY pc' hd hx1 hy1 q ho (nextY q)
  · exact W.acmpN hd hx1 hy1 q (nextN q)
end Walk
end Jvm.Wk
namespace Jvm.Wk
open Jvm Jvm.ClassFile Sem Op Lib Bundle Jvm.Free Jvm.Stand Jvm.LawKit Jvm.RoadKit
section Walk
variable {Z : State} {EL : Bool × List (String × Nat)} {R : Room} {own nm : String} {bytes : ByteArray} {ml : Nat} {ret : Option FieldType} {Q : Option Value → List Ent → Prop} {D D' : List Ent} {k n pc : Nat} {ls ls' : Array Slot} {st : List Value} {a0 : Array Value}
theorem W.still {pc' : Nat} {st' : List Value}
    (H : ∀ {p : Program} {l : Launch} {e : Env} {s : State} {m : MethodId} {args : Array Value} {below : List Frame} {meth : Method} {c : Code} {T : State} {locs : List Loc} {cells slots : Nat}, Stand p l e R s m args below meth c T locs cells slots → p.tables.exec = Jvm.exec → c.code = bytes → c.maxLocals = ml → s.vm.findClass own = some m.cls → Z.Warmed39 s.vm → (∃ vm, Hp Z EL D vm T.heap) →
      ∃ T', Stand p l e R s m args below meth c T' locs cells slots ∧ T'.heap = T.heap ∧ ∀ target, Steps p.tables e below (T'.setTop (mkF m pc' ls' st')) target → Steps p.tables e below (T.setTop (mkF m pc ls st)) target)
    (next : W Z EL R own nm bytes ml ret Q D k n pc' ls' st') : W Z EL R own nm bytes ml ret Q D k n pc ls st := by
  intro p l e s m args below meth c T vm0 k0 locs cells slots A
  obtain ⟨X, hS, hk0, hx, hby, hml, hown, hZ, r1, r2, r3, hN, hH, hc, hl, hE, hNI⟩ := A
  obtain ⟨T', X', e', stp⟩ := H X hx hby hml hown hZ ⟨_, hH⟩
  obtain ⟨s₂, o, h1, r⟩ := next p l e s m args below meth c T' vm0 k0 locs cells slots ⟨X', hS, by rw [e']; exact hk0, hx, hby, hml, hown, hZ, r1, r2, r3, hN, by rw [e']; exact hH, hc, hl, hE, hNI⟩
  exact ⟨s₂, o, stp _ h1, r⟩
theorem W.getf {a : Addr} {b : Bool} {C O f d R0 : String} {fs : List Fd} {v : Value} {idx : Nat} (hd : decode bytes pc = .ok (.getfield idx, 3)) (w : (Cond.fieldLink own idx R0 f d).before a0 Z = true) (via : Via Z R0 O f d) (hm : (a, b, .inl (C, fs)) ∈ D) (hf : (O, f, d, v) ∈ fs)
    (next : W Z EL R own nm bytes ml ret Q D k n (pc + 3) ls (v :: st)) : W Z EL R own nm bytes ml ret Q D k n pc ls (.ref a :: st) :=
  W.still (fun X hx hby hml hown hZ hH => by
    obtain ⟨vm, hH⟩ := hH
    exact getF (host := "") X hx hZ hown (Or.inl w) via rfl ((hH.2.2.1 _ hm).1.2 _ hf) (g := mkF _ pc ls (.ref a :: st)) rfl rfl (hb hby hd)) next
theorem W.gets {O f d R0 : String} {v : Value} {idx : Nat} (hd : decode bytes pc = .ok (.getstatic idx, 3)) (w : (Cond.fieldLink own idx R0 f d).before a0 Z = true) (via : Via Z R0 O f d) (F : Sta Z Z.heap O f d v)
    (next : W Z EL R own nm bytes ml ret Q D k n (pc + 3) ls (v :: st)) : W Z EL R own nm bytes ml ret Q D k n pc ls st :=
  W.still (fun X hx hby hml hown hZ hH => by
    obtain ⟨vm, hH⟩ := hH
    exact getS (host := "") X hx hZ hown w via rfl (F.ext hH.1) (g := mkF _ pc ls st) rfl (hb hby hd)) next
theorem W.alen {a : Addr} {b : Bool} {ad : String} {ty : FieldType} {vs : List Value} (z : Int32) (hd : decode bytes pc = .ok (.arraylength, 1)) (hm : (a, b, .inr (ad, ty, vs)) ∈ D) (hz : Nat.toInt32 vs.length = z)
    (next : W Z EL R own nm bytes ml ret Q D k n (pc + 1) ls (.int z :: st)) : W Z EL R own nm bytes ml ret Q D k n pc ls (.ref a :: st) :=
  W.still (fun X hx hby hml hown hZ hH => by
    obtain ⟨vm, hH⟩ := hH
    obtain ⟨c, A, r1, -⟩ := (hH.2.2.1 _ hm).1
    refine ⟨_, X, rfl, fun target ht => ?_⟩
    refine X.arraylength hx A.1 (State.isArrayOf_alike hZ.alike A.2.1) (g := mkF _ pc ls (.ref a :: st)) rfl rfl (hb hby hd) target ?_
    rw [r1]
    have : vs.toArray.size = vs.length := by simp
    rw [this, hz]; exact ht) next
theorem idx_in' {j : Int32} {i : Nat} {vs : List Value} {c : Cell} (r1 : c.slots = vs.toArray) (hj : Idx j i) (hi : i < vs.length) : ¬ (j < 0 ∨ c.slots.size ≤ j.toNatClampNeg) := by
  rw [r1, hj.2]; rintro (q | q)
  · exact hj.1 q
  · simp at q; omega
theorem idx_at' {j : Int32} {i : Nat} {vs : List Value} {c : Cell} {v : Value} (r1 : c.slots = vs.toArray) (hj : Idx j i) (hv : vs[i]? = some v) : c.slots[j.toNatClampNeg]? = some v := by
  rw [r1, hj.2]; simpa using hv
theorem lt_of_at {vs : List Value} {i : Nat} {v : Value} (hv : vs[i]? = some v) : i < vs.length := (List.getElem?_eq_some_iff.mp hv).1
theorem W.caload {a : Addr} {b : Bool} {ad : String} {vs : List Value} {j : Int32} (i : Nat) {v : Value} (hd : decode bytes pc = .ok (.caload, 1)) (hm : (a, b, .inr (ad, .char, vs)) ∈ D) (hj : Idx j i) (hv : vs[i]? = some v)
    (next : W Z EL R own nm bytes ml ret Q D k n (pc + 1) ls (v :: st)) : W Z EL R own nm bytes ml ret Q D k n pc ls (.int j :: .ref a :: st) :=
  W.still (fun X hx hby hml hown hZ hH => by
    obtain ⟨vm, hH⟩ := hH
    obtain ⟨c, A, r1, -⟩ := (hH.2.2.1 _ hm).1
    exact ⟨_, X, rfl, fun target ht => X.caload hx A.1 (State.isArrayOf_alike hZ.alike A.2.1) A.2.2 (idx_in' r1 hj (lt_of_at hv)) (idx_at' r1 hj hv) (g := mkF _ pc ls (.int j :: .ref a :: st)) rfl rfl (hb hby hd) target ht⟩) next
theorem W.baload {a : Addr} {b : Bool} {ad : String} {vs : List Value} {j : Int32} (i : Nat) {v : Value} (hd : decode bytes pc = .ok (.baload, 1)) (hm : (a, b, .inr (ad, .byte, vs)) ∈ D) (hj : Idx j i) (hv : vs[i]? = some v)
    (next : W Z EL R own nm bytes ml ret Q D k n (pc + 1) ls (v :: st)) : W Z EL R own nm bytes ml ret Q D k n pc ls (.int j :: .ref a :: st) :=
  W.still (fun X hx hby hml hown hZ hH => by
    obtain ⟨vm, hH⟩ := hH
    obtain ⟨c, A, r1, -⟩ := (hH.2.2.1 _ hm).1
    exact ⟨_, X, rfl, fun target ht => X.baloadBytes hx A.1 (State.isArrayOf_alike hZ.alike A.2.1) A.2.2 (idx_in' r1 hj (lt_of_at hv)) (idx_at' r1 hj hv) (g := mkF _ pc ls (.int j :: .ref a :: st)) rfl rfl (hb hby hd) target ht⟩) next
theorem W.ldcI {idx : Nat} {v : Int32} (hd : decode bytes pc = .ok (.ldc idx, 2)) (w : (Cond.constant own idx v).before a0 Z = true) (next : W Z EL R own nm bytes ml ret Q D k n (pc + 2) ls (.int v :: st)) : W Z EL R own nm bytes ml ret Q D k n pc ls st :=
  W.still (fun X hx hby hml hown hZ hH => ⟨_, X, rfl, fun target ht => X.ldcI hx hown (mvT hZ w) (g := mkF _ pc ls st) rfl (hb hby hd) ht⟩) next
theorem W.castY {a : Addr} {K : String} {idx : Nat} (hd : decode bytes pc = .ok (.checkcast idx, 3)) (w : (Cond.classLink own idx K).before a0 Z = true) (hI : ∀ vm h, Hp Z EL D vm h → Ins Z h a K true) (next : W Z EL R own nm bytes ml ret Q D k n (pc + 3) ls (.ref a :: st)) : W Z EL R own nm bytes ml ret Q D k n pc ls (.ref a :: st) :=
  W.still (fun X hx hby hml hown hZ hH => by
    obtain ⟨vm, hH⟩ := hH
    exact Jvm.RoadKit.castY X hx hZ hown w rfl (hI _ _ hH) (g := mkF _ pc ls (.ref a :: st)) rfl rfl (hb hby hd)) next
theorem W.instY {a : Addr} {K : String} {idx : Nat} (hd : decode bytes pc = .ok (.instanceof idx, 3)) (w : (Cond.classLink own idx K).before a0 Z = true) (hI : ∀ vm h, Hp Z EL D vm h → Ins Z h a K true) (next : W Z EL R own nm bytes ml ret Q D k n (pc + 3) ls (.int 1 :: st)) : W Z EL R own nm bytes ml ret Q D k n pc ls (.ref a :: st) :=
  W.still (fun X hx hby hml hown hZ hH => by
    obtain ⟨vm, hH⟩ := hH
    exact Jvm.RoadKit.instY X hx hZ hown w rfl (hI _ _ hH) (g := mkF _ pc ls (.ref a :: st)) rfl rfl (hb hby hd)) next
theorem Hp.exa {D : List Ent} {a : Addr} {b : Bool} {C : String} {fs : List Fd} (hm : (a, b, .inl (C, fs)) ∈ D) : ∀ vm h, Hp Z EL D vm h → Exa Z h a C := fun _ _ H => (H.2.2.1 _ hm).1.1
theorem Hp.ins {D : List Ent} {a : Addr} {b : Bool} {C : String} {fs : List Fd} (hm : (a, b, .inl (C, fs)) ∈ D) : ∀ vm h, Hp Z EL D vm h → Ins Z h a C true := fun _ _ H => Ins.self (H.2.2.1 _ hm).1.1
theorem W.initO {a : Addr} {idx : Nat} (Wt : Nat) (hd : decode bytes pc = .ok (.invokespecial idx, 3)) (w1 : (Cond.methodLink own idx Lib.objectInit).before a0 Z = true) (w2 : (Cond.instanceMethod Lib.objectInit).before a0 Z = true) (w3 : (Cond.code Lib.objectInit ⟨#[0xb1]⟩ 1 none).before a0 Z = true)
    (hls : ls.size = ml) (hW : (st.map fun v => v.category).sum = Wt) (hr : 1 ≤ R.frames ∧ Wt + 12 ≤ R.locals) (next : W Z EL R own nm bytes ml ret Q D k n (pc + 3) ls st) : W Z EL R own nm bytes ml ret Q D k n pc ls (.ref a :: st) :=
  W.still (fun X hx hby hml hown hZ hH => Jvm.RoadKit.initO X hx hZ hown w1 w2 w3 rfl (g := mkF _ pc ls (.ref a :: st)) rfl (by rw [hml]; exact hls) rfl (hb hby hd) hr.1 (W := Wt) (by show 2 * 0 + _ ≤ _; omega) hr.2) next
def LaidAll (Z : State) (a0 : Array Value) (C : String) : List Fd → Prop
  | [] => True
  | f :: r => (Laid Z a0 C f.1 f.2.1 f.2.2.1 ∧ ∃ ty, parseFieldDescriptor f.2.2.1 = some ty ∧ f.2.2.2 = defaultValue ty) ∧ LaidAll Z a0 C r
theorem LaidAll.mem {C : String} : ∀ {fs : List Fd}, LaidAll Z a0 C fs → ∀ f ∈ fs, Laid Z a0 C f.1 f.2.1 f.2.2.1 ∧ ∃ ty, parseFieldDescriptor f.2.2.1 = some ty ∧ f.2.2.2 = defaultValue ty
  | [], _, _, q => nomatch q
  | f :: r, L, g, q => by
    rcases List.mem_cons.mp q with rfl | q
    · exact L.1
    · exact LaidAll.mem L.2 g q
theorem LaidAll.dist {C : String} : ∀ {fs : List Fd}, LaidAll Z a0 C fs → (fs.map (·.2.1)).Pairwise (fun x y => x ≠ y) → (fs.map (sl Z)).Pairwise (fun x y => x ≠ y)
  | [], _, _ => List.Pairwise.nil
  | f :: r, L, N => by
    obtain ⟨n1, n2⟩ := List.pairwise_cons.mp N
    refine List.pairwise_cons.mpr ⟨fun y hy => ?_, LaidAll.dist L.2 n2⟩
    obtain ⟨g, hg, rfl⟩ := List.mem_map.mp hy
    obtain ⟨l1, t1, q1, -⟩ := L.1
    obtain ⟨l2, t2, q2, -⟩ := LaidAll.mem L.2 g hg
    exact slot_ne l1 l2 (n1 _ (List.mem_map.mpr ⟨g, hg, rfl⟩)) q1 q2
theorem W.new {C : String} {idx nn : Nat} {fs : List Fd} (hd : decode bytes pc = .ok (.new idx, 3)) (w : (Cond.classLink own idx C).before a0 Z = true) (wi : (Cond.instantiable C nn).before a0 Z = true) (wz : (Cond.initialized C).before a0 Z = true)
    (hfs : LaidAll Z a0 C fs) (hnm : (fs.map (·.2.1)).Pairwise (fun x y => x ≠ y)) (hr : k + 1 ≤ R.cells ∧ n + nn ≤ R.slots) (next : ∀ a, W Z EL R own nm bytes ml ret Q ((a, true, .inl (C, fs)) :: D) (k + 1) (n + nn) (pc + 3) ls (.ref a :: st)) : W Z EL R own nm bytes ml ret Q D k n pc ls st := by
  intro p l e s m args below meth c T vm0 k0 locs cells slots A
  obtain ⟨X, hS, hk0, hx, hby, hml, hown, hZ, r1, r2, r3, hN, hH, hc, hl, hE, hNI⟩ := A
  obtain ⟨T', h', X', e', E, A2, D2, -, stp⟩ := newO X hx hZ hown w wi wz rfl (g := mkF m pc ls st) rfl (hb hby hd) (by omega) (by omega)
  have H' : Hp Z EL ((T.heap.size, true, .inl (C, fs)) :: D) vm0 h' := hH.new E ⟨A2, fun f hf => by
    obtain ⟨l1, ty, q1, q2⟩ := hfs.mem f hf
    rw [q2]; exact D2 l1 q1⟩ (hfs.dist hnm)
  obtain ⟨s₂, o, h1, r⟩ := next T.heap.size p l e s m args below meth c T' vm0 k0 locs (cells + 1) (slots + nn) ⟨X', hS, by rw [e']; exact Nat.le_trans hk0 E.1, hx, hby, hml, hown, hZ, r1, r2, r3, hN, by rw [e']; exact H', by omega, by omega, hE, hNI⟩
  exact ⟨s₂, o, stp _ h1, r⟩
theorem fits_default (ty : FieldType) : fits ty (defaultValue ty) = true := by cases ty <;> rfl
theorem W.newarr {aty : ArrayType} {z : Int32} (N : Nat) {ad : String} {ty : FieldType} (hd : decode bytes pc = .ok (.newarray aty, 2)) (hty : newarray.typeOf aty = ty) (w : (Cond.arrayClass ty).before a0 Z = true) (hz : Idx z N) (had : "[" ++ ty.toString = ad) (hb8 : N * 8 ≤ 536870912) (hr : k + 1 ≤ R.cells ∧ n + N ≤ R.slots)
    (next : ∀ a, W Z EL R own nm bytes ml ret Q ((a, true, .inr (ad, ty, List.replicate N (defaultValue ty))) :: D) (k + 1) (n + N) (pc + 2) ls (.ref a :: st)) : W Z EL R own nm bytes ml ret Q D k n pc ls (.int z :: st) := by
  intro p l e s m args below meth c T vm0 k0 locs cells slots A
  subst hty
  obtain ⟨X, hS, hk0, hx, hby, hml, hown, hZ, r1, r2, r3, hN, hH, hc, hl, hE, hNI⟩ := A
  obtain ⟨T', h', cA, X', e', E, A2, E2, stp⟩ := newPE X hx hZ w rfl (g := mkF m pc ls (.int z :: st)) rfl (hb hby hd) rfl hz.1 (cap := N) (by rw [hz.2]; exact Nat.le_refl _) hb8 (by omega) (by omega) had
  have H' : Hp Z EL ((T.heap.size, true, .inr (ad, newarray.typeOf aty, List.replicate N (defaultValue (newarray.typeOf aty)))) :: D) vm0 h' := hH.new E ⟨_, A2, by simp [newA, hz.2], by simp; omega, fun v hv => by rw [(List.mem_replicate.mp hv).2]; exact fits_default _, fun _ => E2⟩ trivial
  obtain ⟨s₂, o, h1, r⟩ := next T.heap.size p l e s m args below meth c T' vm0 k0 locs (cells + 1) (slots + N) ⟨X', hS, by rw [e']; exact Nat.le_trans hk0 E.1, hx, hby, hml, hown, hZ, r1, r2, r3, hN, by rw [e']; exact H', by omega, by omega, hE, hNI⟩
  exact ⟨s₂, o, stp _ h1, r⟩
theorem pw_ne {l : List Nat} (P : l.Pairwise (fun x y => x ≠ y)) {i j : Nat} {x y : Nat} (hij : i ≠ j) (hi : l[i]? = some x) (hj : l[j]? = some y) : x ≠ y := by
  obtain ⟨i1, rfl⟩ := List.getElem?_eq_some_iff.mp hi
  obtain ⟨j1, rfl⟩ := List.getElem?_eq_some_iff.mp hj
  rw [List.pairwise_iff_getElem] at P
  rcases Nat.lt_or_gt_of_ne hij with q | q
  · exact P i j i1 j1 q
  · exact (P j i j1 i1 q).symm
theorem set_map_sl {fs : List Fd} {j : Nat} {f g : Fd} (hj : fs[j]? = some f) (e : sl Z g = sl Z f) : (fs.set j g).map (sl Z) = fs.map (sl Z) := by
  rw [List.map_set, e]
  apply List.ext_getElem?
  intro i
  rw [List.getElem?_set]
  split
  · rename_i q; subst q
    rw [List.getElem?_map, hj]
    have := (List.getElem?_eq_some_iff.mp hj).1
    simp [this]
  · rfl
theorem Sat.put {h h' : Heap} {a : Addr} {C O f d : String} {fs : List Fd} {j : Nat} {old v : Value} (S : Sat Z h a (.inl (C, fs))) (hD : Dist Z (.inl (C, fs))) (hj : fs[j]? = some (O, f, d, old)) (Wr1 : Wr h h' a (Jvm.RoadKit.slotOf Z O f d) v) : Sat Z h' a (.inl (C, fs.set j (O, f, d, v))) := by
  refine ⟨S.1.wr Wr1, fun g hg => ?_⟩
  obtain ⟨i, hi⟩ := List.mem_iff_getElem?.mp hg
  rw [List.getElem?_set] at hi
  split at hi
  · rename_i q; subst q
    split at hi
    · cases hi; exact (S.2 _ (List.mem_of_getElem? hj)).same Wr1
    · cases hi
  · rename_i q
    refine (S.2 g (List.mem_of_getElem? hi)).other Wr1 (Or.inr ?_)
    exact pw_ne hD (Ne.symm q) (x := sl Z g) (y := sl Z (O, f, d, old)) (by rw [List.getElem?_map, hi]; rfl) (by rw [List.getElem?_map, hj]; rfl)
theorem W.putf {a : Addr} {C O f d R0 : String} {fs : List Fd} {old v : Value} {idx kk : Nat} {ty : FieldType} (i j : Nat) (hd : decode bytes pc = .ok (.putfield idx, 3)) (w : (Cond.fieldLink own idx R0 f d).before a0 Z = true) (via : Via Z R0 O f d)
    (hi : D[i]? = some (a, true, .inl (C, fs))) (hj : fs[j]? = some (O, f, d, old)) (L : (Cond.lays C O f d).before a0 Z = true ∨ ((Cond.laysFinal C O f d).before a0 Z = true ∧ own = O ∧ nm = "<init>")) (wi : (Cond.instantiable C kk).before a0 Z = true)
    (hty : parseFieldDescriptor d = some ty) (hn : narrow ty v = v) (hf : fits ty v = true) (hD : D.set i (a, true, .inl (C, fs.set j (O, f, d, v))) = D')
    (next : W Z EL R own nm bytes ml ret Q D' k n (pc + 3) ls st) : W Z EL R own nm bytes ml ret Q D k n pc ls (v :: .ref a :: st) := by
  intro p l e s m args below meth c T vm0 k0 locs cells slots A
  obtain ⟨X, hS, hk0, hx, hby, hml, hown, hZ, r1, r2, r3, hN, hH, hc, hl, hE, hNI⟩ := A
  subst hD
  obtain ⟨S, g⟩ := hH.2.2.1 _ (List.mem_of_getElem? hi)
  obtain ⟨T', h', X', e', W1, stp⟩ := putF (host := "") X hx hZ hown (Or.inl w) via rfl (S.2 _ (List.mem_of_getElem? hj)) S.1 (L.imp id fun q => ⟨q.1, q.2.1, r3.trans q.2.2⟩) wi hty hn hf (g := mkF m pc ls (v :: .ref a :: st)) rfl rfl (hb hby hd)
  obtain ⟨g1, g2, g3⟩ := g rfl
  have H' := hH.keepSet (d' := .inl (C, fs.set j (O, f, d, v))) hi (Keep.of_wr W1) (Sat.put S g3 hj W1) (by show List.Pairwise _ _; rw [set_map_sl (Z := Z) (g := (O, f, d, v)) hj rfl]; exact g3)
  obtain ⟨s₂, o, q1, r⟩ := next p l e s m args below meth c T' vm0 k0 _ cells slots ⟨X', hS, by rw [e', W1.size]; exact hk0, hx, hby, hml, hown, hZ, r1, r2, r3, Fr.snoc X' hN g1, by rw [e']; exact H', hc, hl, hE, hNI⟩
  exact ⟨s₂, o, stp _ q1, r⟩
theorem Sat.store {h h' : Heap} {a : Addr} {ad : String} {ty : FieldType} {vs : List Value} {i : Nat} {v : Value} (S : Sat Z h a (.inr (ad, ty, vs))) (hv : fits ty v = true) (W1 : Wr h h' a i v) : Sat Z h' a (.inr (ad, ty, vs.set i v)) := by
  obtain ⟨c, A, r1, r2, r3, r4⟩ := S
  refine ⟨_, A.same W1, ?_, by simpa using r2, fun x hx => ?_, fun q => (r4 q).wr W1⟩
  · simp [Cell.setSlot, r1]
  · rcases List.mem_or_eq_of_mem_set hx with hx | rfl
    · exact r3 x hx
    · exact hv
theorem W.stA {a : Addr} {ad : String} {ty : FieldType} {vs : List Value} {i j : Nat} {v : Value} {st' : List Value} {pc' : Nat}
    (H : ∀ {p : Program} {l : Launch} {e : Env} {s : State} {m : MethodId} {args : Array Value} {below : List Frame} {meth : Method} {c : Code} {T : State} {locs : List Loc} {cells slots : Nat} {cl : Cell}, Stand p l e R s m args below meth c T locs cells slots → p.tables.exec = Jvm.exec → c.code = bytes → Z.Warmed39 s.vm → Arr Z T.heap a cl ty → cl.slots = vs.toArray →
      ∃ T' h', Stand p l e R s m args below meth c T' (locs ++ [⟨a, j⟩]) cells slots ∧ T'.heap = h' ∧ Wr T.heap h' a j v ∧ ∀ target, Steps p.tables e below (T'.setTop (mkF m pc' ls st')) target → Steps p.tables e below (T.setTop (mkF m pc ls st)) target)
    (hi : D[i]? = some (a, true, .inr (ad, ty, vs))) (hf : fits ty v = true) (hD : D.set i (a, true, .inr (ad, ty, vs.set j v)) = D')
    (next : W Z EL R own nm bytes ml ret Q D' k n pc' ls st') : W Z EL R own nm bytes ml ret Q D k n pc ls st := by
  intro p l e s m args below meth c T vm0 k0 locs cells slots A
  obtain ⟨X, hS, hk0, hx, hby, hml, hown, hZ, r1, r2, r3, hN, hH, hc, hl, hE, hNI⟩ := A
  subst hD
  obtain ⟨S, g⟩ := hH.2.2.1 _ (List.mem_of_getElem? hi)
  obtain ⟨cl, A, q1, -⟩ := id S
  obtain ⟨T', h', X', e', W1, stp⟩ := H X hx hby hZ A q1
  obtain ⟨g1, g2, g3⟩ := g rfl
  have H' := hH.keepSet hi (Keep.of_wr W1) (Sat.store S hf W1) trivial
  obtain ⟨s₂, o, q1, r⟩ := next p l e s m args below meth c T' vm0 k0 _ cells slots ⟨X', hS, by rw [e', W1.size]; exact hk0, hx, hby, hml, hown, hZ, r1, r2, r3, Fr.snoc X' hN g1, by rw [e']; exact H', hc, hl, hE, hNI⟩
  exact ⟨s₂, o, stp _ q1, r⟩
theorem W.castore {a : Addr} {ad : String} {vs : List Value} {z x x' : Int32} (i j : Nat) (hd : decode bytes pc = .ok (.castore, 1)) (hi : D[i]? = some (a, true, .inr (ad, .char, vs))) (hz : Idx z j) (hj : j < vs.length) (hx' : nar .char x = x')
    (hD : D.set i (a, true, .inr (ad, .char, vs.set j (.int x'))) = D') (next : W Z EL R own nm bytes ml ret Q D' k n (pc + 1) ls st) : W Z EL R own nm bytes ml ret Q D k n pc ls (.int x :: .int z :: .ref a :: st) :=
  W.stA (i := i) (j := j) (fun X hx hby hZ A q => by
    have r := stC X hx hZ rfl A (j := z) (x := x) (idx_in' q hz hj) (g := mkF _ pc ls (.int x :: .int z :: .ref a :: st)) rfl rfl (hb hby hd)
    rw [hz.2, hx'] at r; exact r) hi (by rw [← hx']; exact fits_nar_char x) hD next
theorem W.bastore {a : Addr} {ad : String} {vs : List Value} {z x x' : Int32} (i j : Nat) (hd : decode bytes pc = .ok (.bastore, 1)) (hi : D[i]? = some (a, true, .inr (ad, .byte, vs))) (hz : Idx z j) (hj : j < vs.length) (hx' : nar .byte x = x')
    (hD : D.set i (a, true, .inr (ad, .byte, vs.set j (.int x'))) = D') (next : W Z EL R own nm bytes ml ret Q D' k n (pc + 1) ls st) : W Z EL R own nm bytes ml ret Q D k n pc ls (.int x :: .int z :: .ref a :: st) :=
  W.stA (i := i) (j := j) (fun X hx hby hZ A q => by
    have r := stB X hx hZ rfl A (j := z) (x := x) (idx_in' q hz hj) (g := mkF _ pc ls (.int x :: .int z :: .ref a :: st)) rfl rfl (hb hby hd)
    rw [hz.2, hx'] at r; exact r) hi (by rw [← hx']; exact fits_nar_byte x) hD next
abbrev dStr (c : Int32) (v : Value) : Desc := .inl ("java/lang/String", [("java/lang/String", "value", "[B", v), ("java/lang/String", "coder", "B", .int c)])
theorem W.ldcT {idx : Nat} {text : String} (N : Nat) {vs : List Value} (hni : EL.1 = false) (hd : decode bytes pc = .ok (.ldc idx, 2)) (w : (Cond.stringLink own idx text).before a0 Z = true) (wS : ∀ a ∈ Bundle.stringAtoms, a.before a0 Z = true) (hmem : (own, idx) ∈ EL.2)
    (ht : (∀ c ∈ text.toList, c.toNat < 256) ∧ text.toList.map (fun c => Value.int (Jvm.Lit.byteI c.toNat.toUInt16)) = vs) (hn : 4 * text.toList.length ≤ N) (hbig : N ≤ 536870912) (hr : k + 2 ≤ R.cells ∧ n + (N + 4) ≤ R.slots)
    (next : ∀ a b, W Z EL R own nm bytes ml ret Q ((a, false, dStr 0 (.ref b)) :: (b, false, .inr ("", .byte, vs)) :: D) (k + 2) (n + (N + 4)) (pc + 2) ls (.ref a :: st)) : W Z EL R own nm bytes ml ret Q D k n pc ls st := by
  intro p l e s m args below meth c T vm0 k0 locs cells slots A
  obtain ⟨X, hS, hk0, hx, hby, hml, hown, hZ, r1, r2, r3, hN, hH, hc, hl, ⟨⟨b0, hE⟩, hNL⟩, hNI⟩ := A
  have hE' : EW Z a0 EL.2 := fun q hq => by
    obtain ⟨t, ht, r⟩ := hE q hq
    exact ⟨t, by have := mvS (s := Z) (args := a0) (State.Warmed39.refl Z) ht; simpa using this, r⟩
  have hlen : vs.length = text.toList.length := by rw [← ht.2]; simp
  have hv31 : vs.length < 2147483648 := by omega
  have iz := Idx.of_nat hv31
  obtain ⟨a, T', h', k1, b, kk, X', e', E, hS', hk1, hZ', hown', F1, F2, F3, F4, g1, g2, hC, -, hne, stp⟩ := ldcCH X hx hZ hown w wS rfl hS hk0 hE' hmem hH.2.1 (z := Nat.toInt32 vs.length) ht iz.1 iz.2 (g := mkF m pc ls st) rfl (hb hby hd) hn hbig (by omega) (by omega)
  have hH1 := hH.grown E hC
  have hH2 : Hp Z EL ((b, false, .inr ("", .byte, vs)) :: D) T'.vm h' := hH1.read (Sat.of_arv F4 iz.2 fun q => absurd rfl q) fun x q _ => (hne x q).2
  have hH3 : Hp Z EL ((a, false, dStr 0 (.ref b)) :: (b, false, .inr ("", .byte, vs)) :: D) T'.vm h' := hH2.read ⟨F1, fun f hf => by
    rcases List.mem_cons.mp hf with rfl | hf
    · exact F3
    · cases List.mem_singleton.mp hf; exact F2⟩ fun x q _ => (hne x q).1
  obtain ⟨s₂, o, q1, r⟩ := next a b p l e s m args below meth c T' T'.vm k1 locs (cells + 2) (slots + (N + 4)) ⟨X', hS', by rw [e']; exact hk1, hx, hby, hml, hown', hZ', r1, r2, r3, hN, by rw [e']; exact hH3, by omega, by omega, ⟨⟨b0, hE⟩, hNL⟩, fun q => by rw [hni] at q; cases q⟩
  exact ⟨s₂, o, stp _ q1, r⟩
theorem W.out {v : Option Value} (hk : k ≤ R.cells ∧ n ≤ R.slots) (hv : ret = none → v = none) (q : Q v D)
    (H : ∀ {p : Program} {l : Launch} {e : Env} {s : State} {m : MethodId} {args : Array Value} {below : List Frame} {meth : Method} {c : Code} {T : State} {locs : List Loc} {cells slots : Nat} {fs : List Frame}, Stand p l e R s m args below meth c T locs cells slots → p.tables.exec = Jvm.exec → c.code = bytes → meth.sig.returnType = ret →
      (∀ (f : JFrame) (acts : List Action), f.method = m → f.locked = none → f.entered = [] → (doReturn e (T.setTop f) acts v).1 = T.setFrames fs) → Steps p.tables e below (T.setTop (mkF m pc ls st)) (T.setFrames fs)) : W Z EL R own nm bytes ml ret Q D k n pc ls st := by
  intro p l e s m args below meth c T vm0 k0 locs cells slots A
  obtain ⟨X, hS, hk0, hx, hby, hml, hown, hZ, r1, r2, r3, hN, hH, hc, hl, ⟨⟨b0, hE⟩, hNL⟩, hNI⟩ := A
  obtain ⟨fs, h1, h2, h3, ⟨h4, h5, h6, h7⟩⟩ := X.leaveW hS hk0 (v := v) (fun z => hv (r1 ▸ z)) r2
  refine ⟨_, _, H X hx hby r1 h1, h2, h3, v, locs, rfl, hN, ⟨D, (show Hp Z EL D T.vm T.heap from hH.toVm (CHv.at X hZ hE hH.2.1)), q⟩, ⟨h4, h5, h6, h7.mono (by omega) (by omega)⟩, fun q => ?_⟩
  have := X.warmed
  rw [hNI q] at this; exact this
theorem W.ireturn {x : Int32} {t : FieldType} (hd : decode bytes pc = .ok (.ireturn, 1)) (hret : ret = some t) (ht : t = .int ∨ t = .boolean ∨ t = .byte ∨ t = .char ∨ t = .short) (hn : narrow t (.int x) = .int x) (hk : k ≤ R.cells ∧ n ≤ R.slots) (q : Q (some (.int x)) D) : W Z EL R own nm bytes ml ret Q D k n pc ls (.int x :: st) :=
  W.out hk (fun z => by rw [hret] at z; cases z) q (fun X hx hby hr hl => retOut X hx (hr.trans hret) hn (Or.inl ⟨rfl, ht, x, rfl⟩) (hb hby hd) hl)
theorem W.areturn {v : Value} {t : FieldType} (hd : decode bytes pc = .ok (.areturn, 1)) (hret : ret = some t) (ht : t.isReference = true) (hv : v.isRef = true) (hk : k ≤ R.cells ∧ n ≤ R.slots) (q : Q (some v) D) : W Z EL R own nm bytes ml ret Q D k n pc ls (v :: st) :=
  W.out hk (fun z => by rw [hret] at z; cases z) q (fun X hx hby hr hl => retOut X hx (hr.trans hret) (by cases t <;> first | rfl | cases ht) (Or.inr (Or.inr (Or.inr (Or.inr ⟨rfl, ht, hv⟩)))) (hb hby hd) hl)
theorem W.return_ (hd : decode bytes pc = .ok (.return_, 1)) (hret : ret = none) (hk : k ≤ R.cells ∧ n ≤ R.slots) (q : Q none D) : W Z EL R own nm bytes ml ret Q D k n pc ls [] :=
  W.out hk (fun _ => rfl) q (fun X hx hby hr hl => X.returnOut hx (hr.trans hret) (hb hby hd) hl)
end Walk
end Jvm.Wk
namespace Jvm.Wk
open Jvm Jvm.ClassFile Sem Op Lib Bundle Jvm.Free Jvm.Stand Jvm.LawKit Jvm.RoadKit
section Calls
variable {Z : State} {EL : Bool × List (String × Nat)} {R : Room} {own nm : String} {bytes : ByteArray} {ml : Nat} {ret : Option FieldType} {Q : Option Value → List Ent → Prop} {D D' : List Ent} {k n pc : Nat} {ls ls' : Array Slot} {st : List Value} {a0 : Array Value}
variable {y : MethodName} {cb : ByteArray} {cm : Nat} {cr : Option FieldType} {rm : Room} {as : List Value} {Q' : Option Value → List Ent → Prop} {idx : Nat}
abbrev CPre (Z : State) (EL : Bool × List (String × Nat)) (R rm : Room) (D : List Ent) (vm0 : Vm) (as : List Value) : Pt → Array Value → Prop := fun A a => a = as.toArray ∧ Hp Z EL D vm0 A.U.heap ∧ A.cells + rm.cells ≤ R.cells ∧ A.slots + rm.slots ≤ R.slots
abbrev CPost (Z : State) (EL : Bool × List (String × Nat)) (rm : Room) (Q' : Option Value → List Ent → Prop) : Pt → Array Value → Option Value → Pt → Prop :=
  fun A _ v B => ∃ L D', Fr Z.heap.size L ∧ Hp Z EL D' B.U.vm B.U.heap ∧ Q' v D' ∧ B.locs = A.locs ++ L ∧ B.cells = A.cells + rm.cells ∧ B.slots = A.slots + rm.slots ∧ (EL.1 = true → A.U.WarmedH B.U.vm)
theorem conBack {p : Program} {l : Launch} {e : Env} {s : State} {args : Array Value} {below : List Frame} {vm0 : Vm} {len Wt : Nat} (hC : Con Z EL y cb cm cr rm as D Q') (hZ : Z.Warmed39 vm0) (wc : (Cond.code y cb cm cr).before a0 Z = true) (wz : (Cond.initialized y.cls).before a0 Z = true) (hE : ELok Z EL)
    (hf : rm.frames + 1 ≤ R.frames) (hl : Wt + (cm + 11) + rm.locals ≤ R.locals) : BackS l R p e below (s.setVm vm0) args y len Wt (CPre Z EL R rm D vm0 as) (CPost Z EL rm Q') := by
  obtain ⟨⟨b0, hE0⟩, hNL⟩ := id hE
  exact BackS.of_freeW (bytes := cb) (maxL := cm) (ret := cr) (E := fun _ first o t L k n => k = rm.cells ∧ n = rm.slots ∧ Fr Z.heap.size L ∧ (EL.1 = true → first.WarmedH t.vm) ∧ ∃ v, o = .returned v ∧ ∃ D', Hp Z EL D' t.vm t.heap ∧ Q' v D') (hC hE l []) hf hl
    (fun m meth c A a Y hp => have hU : Z.Warmed39 A.U.vm := wtrans (s := s.setVm vm0) hZ Y.warmed
      ⟨by show (Cond.and _ .tt).before a A.U = true; rw [Cond.before_and, mv hU wc]; rfl, mv hU wc, mv hU wz, hp.2.2.1, hp.2.2.2⟩)
    (fun m meth c A a g mk Y hp => ⟨hp.1, wtrans (s := s.setVm vm0) hZ Y.warmed, (show Hp Z EL D A.U.vm A.U.heap from hp.2.1.toVm (CHv.at Y hZ hE0 hp.2.1.2.1))⟩) (fun _ _ _ _ _ _ _ _ _ => trivial)
    (fun _ _ _ _ ⟨v, L, h1, h2, h3, h4, h5⟩ => ⟨L, _, _, h4, rfl, rfl, h2, h5, v, h1, h3⟩)
    (fun m meth c A a g mk v t L k n Y hp _ _ ⟨e1, e2, e3, e7, v', e4, D', e5, e6⟩ => by
      cases e4; subst e1 e2
      exact ⟨L, D', e3, e5, e6, rfl, rfl, rfl, e7⟩)
theorem W.afterCall {p : Program} {l : Launch} {e : Env} {s : State} {m : MethodId} {args : Array Value} {below : List Frame} {meth : Method} {c : Code} {T : State} {vm0 : Vm} {k0 : Nat} {locs : List Loc} {cells slots : Nat} {len : Nat} {rest : List Value} {aa : Array Value}
    (A : Here Z EL R own nm bytes ml ret D k n p l e s m args below meth c T vm0 k0 locs cells slots)
    (hB : ∃ (v : Option Value) (vm₁ : Vm) (B : Pt), (s.setVm vm0).WarmedH vm₁ ∧ Stand p l e R ((s.setVm vm0).setVm B.U.vm) m args below meth c B.U B.locs B.cells B.slots ∧ (s.setVm vm0).Since B.U.vm B.U.heap.size ∧ T.heap.size ≤ B.U.heap.size ∧ CPost Z EL rm Q' ⟨T.setVm vm₁, locs, cells, slots⟩ aa v B ∧
      Steps p.tables e below (T.setTop (mkF m pc ls st)) (B.U.setTop { mkF m pc ls st with pc := pc + len, stack := v.toList ++ rest }))
    (next : ∀ v D', Q' v D' → W Z EL R own nm bytes ml ret Q D' (k + rm.cells) (n + rm.slots) (pc + len) ls (v.toList ++ rest)) :
    ∃ s₂ o, Steps p.tables e below (T.setTop (mkF m pc ls st)) s₂ ∧ s₂.status = .running ∧ Ended s₂ below o ∧ Res Z EL Q R s o s₂ := by
  obtain ⟨X, hS, hk0, hx, hby, hml, hown, hZ, r1, r2, r3, hN, hH, hc, hl, hE, hNI⟩ := A
  obtain ⟨v, vm₁, ⟨U, L1, c1, n1⟩, hW1, X', hS', hg, ⟨L, D', hL, hH', hq, e1, e2, e3, e4⟩, stp⟩ := hB
  dsimp only [Pt.U, Pt.locs, Pt.cells, Pt.slots] at X' hS' hg hH' e1 e2 e3 e4 stp
  subst e1 e2 e3
  cases hb : EL.1 with
  | false =>
    obtain ⟨s₂, o, q1, r⟩ := next v D' hq p l e s m args below meth c U U.vm U.heap.size (locs ++ L) (cells + rm.cells) (slots + rm.slots)
      ⟨X', hS.trans hS' (Nat.le_trans hk0 hg), Nat.le_refl _, hx, hby, hml, (hS'.1.alike.findClass _ _).trans hown, State.Warmed39.trans (t := s.setVm vm0) hZ hS'.1, r1, r2, r3, Fr.app hN hL, hH', by omega, by omega, hE, fun q => by rw [hb] at q; cases q⟩
    exact ⟨s₂, o, stp.trans q1, r⟩
  | true =>
    have hWU : (s.setVm vm0).WarmedH U.vm := State.WarmedH.trans hW1 (e4 hb)
    have X2 : Stand p l e R (s.setVm vm0) m args below meth c U (locs ++ L) (cells + rm.cells) (slots + rm.slots) :=
      ⟨X.admits, X.cas, X.clock, X.frames, X.room, X.hears, X.method, X.code, X'.here, X'.tail, hWU, X'.limits, X'.bytes, X'.same.setVm vm0⟩
    have hn0 : EL.2 = [] := hE.2 hb
    have hH2 : Hp Z EL D' vm0 U.heap := ⟨hH'.1, by rw [hn0]; exact fun p hp => (by cases hp), fun x hx => ⟨(hH'.2.2.1 x hx).1, fun w => ⟨((hH'.2.2.1 x hx).2 w).1, (by rw [hn0]; rintro ⟨p, hp, -⟩; cases hp), ((hH'.2.2.1 x hx).2 w).2.2⟩⟩, hH'.2.2.2⟩
    obtain ⟨s₂, o, q1, r⟩ := next v D' hq p l e s m args below meth c U vm0 k0 (locs ++ L) (cells + rm.cells) (slots + rm.slots)
      ⟨X2, hS, Nat.le_trans hk0 hg, hx, hby, hml, hown, hZ, r1, r2, r3, Fr.app hN hL, hH2, by omega, by omega, hE, hNI⟩
    exact ⟨s₂, o, stp.trans q1, r⟩
abbrev Rooms (R rm : Room) (Wt cm k n : Nat) : Prop := rm.frames + 1 ≤ R.frames ∧ Wt + (cm + 11) + rm.locals ≤ R.locals ∧ k + rm.cells ≤ R.cells ∧ n + rm.slots ≤ R.slots
abbrev okCls (y : MethodName) : Prop := y.cls ≠ "java/lang/invoke/MethodHandle" ∧ y.cls ≠ "java/lang/invoke/VarHandle"
theorem W.callS {ps : List FieldType} {r : Option FieldType} (Wt : Nat) (rest : List Value) (hd : decode bytes pc = .ok (.invokestatic idx, 3)) (wl : (Cond.methodLink own idx y).before a0 Z = true) (ws : (Cond.static y).before a0 Z = true) (wz : (Cond.initialized y.cls).before a0 Z = true) (wc : (Cond.code y cb cm cr).before a0 Z = true)
    (hC : Con Z EL y cb cm cr rm as D Q') (hy : okCls y) (hps : parseMethodDescriptor y.desc = some ⟨ps, r⟩) (hlen : as.length = ps.length) (hst : as.reverse ++ rest = st) (hls : ls.size = ml) (hW : (rest.map fun v => v.category).sum = Wt) (hr : Rooms R rm Wt cm k n)
    (next : ∀ v D', Q' v D' → W Z EL R own nm bytes ml ret Q D' (k + rm.cells) (n + rm.slots) (pc + 3) ls (v.toList ++ rest)) : W Z EL R own nm bytes ml ret Q D k n pc ls st := by
  intro p l e s m args below meth c T vm0 k0 locs cells slots A
  obtain ⟨X, hS, hk0, hx, hby, hml, hown, hZ, r1, r2, r3, hN, hH, hc, hl, hE, hNI⟩ := id A
  subst hst
  exact W.afterCall A (callSS X hx hown (mvT hZ wl) (mvT hZ ws) (mvT hZ wz) (mvT hZ wc) hy (conBack (Wt := Wt) (len := 3) hC hZ wc wz hE hr.1 hr.2.1) (g := mkF m pc ls (as.reverse ++ rest)) rfl (by rw [hml]; exact hls) (lenOf hps hlen) rfl (by show 2 * 0 + _ ≤ _; omega) (hb hby hd) (fun _ _ => ⟨rfl, hH, by show cells + _ ≤ _; have := hr.2.2.1; omega, by show slots + _ ≤ _; have := hr.2.2.2; omega⟩)) next
theorem W.callI {ps : List FieldType} {r : Option FieldType} {a : Addr} (Wt : Nat) (rest : List Value) (hd : decode bytes pc = .ok (.invokespecial idx, 3)) (hy1 : y.name = "<init>") (wl : (Cond.methodLink own idx y).before a0 Z = true) (wi : (Cond.instanceMethod y).before a0 Z = true) (wz : (Cond.initialized y.cls).before a0 Z = true) (wc : (Cond.code y cb cm none).before a0 Z = true)
    (hC : Con Z EL y cb cm none rm (.ref a :: as) D Q') (hy : okCls y) (hps : parseMethodDescriptor y.desc = some ⟨ps, r⟩) (hlen : as.length = ps.length) (hst : as.reverse ++ .ref a :: rest = st) (hls : ls.size = ml) (hW : (rest.map fun v => v.category).sum = Wt) (hr : Rooms R rm Wt cm k n)
    (next : ∀ v D', Q' v D' → W Z EL R own nm bytes ml ret Q D' (k + rm.cells) (n + rm.slots) (pc + 3) ls (v.toList ++ rest)) : W Z EL R own nm bytes ml ret Q D k n pc ls st := by
  intro p l e s m args below meth c T vm0 k0 locs cells slots A
  obtain ⟨X, hS, hk0, hx, hby, hml, hown, hZ, r1, r2, r3, hN, hH, hc, hl, hE, hNI⟩ := id A
  subst hst
  exact W.afterCall A (X.specialBackS hx hy1 hown (mvT hZ wl) (mvT hZ wi) (mvT hZ wc) hy (conBack (Wt := Wt) (len := 3) hC hZ wc wz hE hr.1 hr.2.1) (g := mkF m pc ls (as.reverse ++ .ref a :: rest)) rfl (by rw [hml]; exact hls) (Steps.refl _) (lenOf hps hlen) rfl (by show 2 * 0 + _ ≤ _; omega) (hb hby hd) (fun _ _ => ⟨rfl, hH, by show cells + _ ≤ _; have := hr.2.2.1; omega, by show slots + _ ≤ _; have := hr.2.2.2; omega⟩)) next
theorem W.callV {z : MethodName} {ps : List FieldType} {r : Option FieldType} {a : Addr} {C C' : String} (Wt : Nat) (rest : List Value) (hd : decode bytes pc = .ok (.invokevirtual idx, 3)) (wl : (Cond.methodLink own idx y).before a0 Z = true) (wdl : (Cond.declares y).before a0 Z = true) (wsy : (Cond.selects C' y y).before a0 Z = true) (wse : (Cond.selects C y z).before a0 Z = true) (wi : (Cond.instanceMethod z).before a0 Z = true) (wz : (Cond.initialized z.cls).before a0 Z = true) (wc : (Cond.code z cb cm cr).before a0 Z = true)
    (hI : ∀ vm h, Hp Z EL D vm h → Exa Z h a C) (hC : Con Z EL z cb cm cr rm (.ref a :: as) D Q') (hy : okCls y) (hps : parseMethodDescriptor y.desc = some ⟨ps, r⟩) (hlen : as.length = ps.length) (hst : as.reverse ++ .ref a :: rest = st) (hls : ls.size = ml) (hW : (rest.map fun v => v.category).sum = Wt) (hr : Rooms R rm Wt cm k n)
    (next : ∀ v D', Q' v D' → W Z EL R own nm bytes ml ret Q D' (k + rm.cells) (n + rm.slots) (pc + 3) ls (v.toList ++ rest)) : W Z EL R own nm bytes ml ret Q D k n pc ls st := by
  intro p l e s m args below meth c T vm0 k0 locs cells slots A
  obtain ⟨X, hS, hk0, hx, hby, hml, hown, hZ, r1, r2, r3, hN, hH, hc, hl, hE, hNI⟩ := id A
  subst hst
  obtain ⟨cq, kq, qa, qb, qc⟩ := isOf (s := s.setVm vm0) hZ rfl (hI _ _ hH)
  exact W.afterCall A (X.virtualBackS hx hown (mvT hZ wl) (mvT hZ wdl) (notFace_of_selects (args := #[]) (mvT hZ wsy)) (mvT hZ wse) (mvT hZ wi) hy (conBack (Wt := Wt) (len := 3) hC hZ wc wz hE hr.1 hr.2.1) qa qc (g := mkF m pc ls (as.reverse ++ .ref a :: rest)) rfl (by rw [hml]; exact hls) (Steps.refl _) (lenOf hps hlen) rfl (by show 2 * 0 + _ ≤ _; omega) (hb hby hd) (fun _ _ => ⟨rfl, hH, by show cells + _ ≤ _; have := hr.2.2.1; omega, by show slots + _ ≤ _; have := hr.2.2.2; omega⟩)) next
end Calls
end Jvm.Wk
namespace Jvm.Wk
open Jvm Jvm.ClassFile Sem Op Lib Bundle Jvm.Free Jvm.Stand Jvm.LawKit Jvm.RoadKit
abbrev vi (x : Int32) : Value := .int x
abbrev vr (a : Addr) : Value := .ref a
abbrev uu : Slot := .unset
abbrev ar (ad : String) (ty : FieldType) (vs : List Value) : Desc := .inr (ad, ty, vs)
theorem m0 {α : Type} {x : α} {l : List α} : x ∈ x :: l := List.mem_cons_self ..
theorem mS {α : Type} {x y : α} {l : List α} (h : x ∈ l) : x ∈ y :: l := List.mem_cons_of_mem _ h
theorem m1 {α : Type} {x y1 : α} {l : List α} : x ∈ y1 :: x :: l := mS m0
theorem m2 {α : Type} {x y1 y2 : α} {l : List α} : x ∈ y1 :: y2 :: x :: l := mS m1
theorem m3 {α : Type} {x y1 y2 y3 : α} {l : List α} : x ∈ y1 :: y2 :: y3 :: x :: l := mS m2
theorem m4 {α : Type} {x y1 y2 y3 y4 : α} {l : List α} : x ∈ y1 :: y2 :: y3 :: y4 :: x :: l := mS m3
theorem m5 {α : Type} {x y1 y2 y3 y4 y5 : α} {l : List α} : x ∈ y1 :: y2 :: y3 :: y4 :: y5 :: x :: l := mS m4
theorem m6 {α : Type} {x y1 y2 y3 y4 y5 y6 : α} {l : List α} : x ∈ y1 :: y2 :: y3 :: y4 :: y5 :: y6 :: x :: l := mS m5
theorem m7 {α : Type} {x y1 y2 y3 y4 y5 y6 y7 : α} {l : List α} : x ∈ y1 :: y2 :: y3 :: y4 :: y5 :: y6 :: y7 :: x :: l := mS m6
theorem m8 {α : Type} {x y1 y2 y3 y4 y5 y6 y7 y8 : α} {l : List α} : x ∈ y1 :: y2 :: y3 :: y4 :: y5 :: y6 :: y7 :: y8 :: x :: l := mS m7
theorem m9 {α : Type} {x y1 y2 y3 y4 y5 y6 y7 y8 y9 : α} {l : List α} : x ∈ y1 :: y2 :: y3 :: y4 :: y5 :: y6 :: y7 :: y8 :: y9 :: x :: l := mS m8
theorem m10 {α : Type} {x y1 y2 y3 y4 y5 y6 y7 y8 y9 y10 : α} {l : List α} : x ∈ y1 :: y2 :: y3 :: y4 :: y5 :: y6 :: y7 :: y8 :: y9 :: y10 :: x :: l := mS m9
theorem m11 {α : Type} {x y1 y2 y3 y4 y5 y6 y7 y8 y9 y10 y11 : α} {l : List α} : x ∈ y1 :: y2 :: y3 :: y4 :: y5 :: y6 :: y7 :: y8 :: y9 :: y10 :: y11 :: x :: l := mS m10
theorem i_lt {x y : Int32} (h : x < y) : x.toInt < y.toInt := Int32.lt_iff_toInt_lt.mp h
theorem i_eq {x y : Int32} (h : x = y) : x.toInt = y.toInt := by rw [h]
theorem i_ne {x y : Int32} (h : ¬ x = y) : x.toInt ≠ y.toInt := fun e => h (Int32.toInt_inj.mp e)
theorem eqI {x y : Int32} (h : x.toInt = y.toInt) : x = y := Int32.toInt_inj.mp h
section C
variable {x y : Int32}
theorem y_eq (h : x.toInt = y.toInt) : Cd .eq x y := eqI h
theorem n_eq (h : x.toInt ≠ y.toInt) : ¬ Cd .eq x y := fun e => h (i_eq e)
theorem y_ne (h : x.toInt ≠ y.toInt) : Cd .ne x y := fun e => h (i_eq e)
theorem n_ne (h : x.toInt = y.toInt) : ¬ Cd .ne x y := fun e => e (eqI h)
theorem y_ge (h : y.toInt ≤ x.toInt) : Cd .ge x y := fun e => by have := i_lt e; omega
theorem n_ge (h : x.toInt < y.toInt) : ¬ Cd .ge x y := fun e => e (Int32.lt_iff_toInt_lt.mpr h)
theorem y_le (h : x.toInt ≤ y.toInt) : Cd .le x y := fun e => by have := i_lt e; omega
theorem t_eq (h : Cd .eq x y) : x.toInt = y.toInt := i_eq h
theorem f_eq (h : ¬ Cd .eq x y) : x.toInt ≠ y.toInt := i_ne h
theorem t_ne (h : Cd .ne x y) : x.toInt ≠ y.toInt := i_ne h
theorem f_ne (h : ¬ Cd .ne x y) : x.toInt = y.toInt := i_eq (Classical.not_not.mp h)
end C
theorem a_and (x m : Int32) (k : Nat) (M : Int) (hk : k ≤ 31) (hm : m.toBitVec.toNat = 2 ^ k - 1) (hM : ((2 ^ k : Nat) : Int) = M) : (x &&& m).toInt = x.toInt % M := by rw [← hM]; exact c_mask x m k hk hm
theorem a_ushr (x q : Int32) (k : Nat) (M : Int) (hk : q.toBitVec.toNat % 32 = k) (h0 : 0 < k) (hM : ((2 ^ k : Nat) : Int) = M) : (XT.ushr x q).toInt = (x.toInt % 4294967296) / M := by rw [← hM]; exact c_iushr x q k hk h0
theorem a_rem (x y : Int32) (d : Int) (hy : y.toInt = d) (hd : 0 < d) : (0 ≤ x.toInt → (x % y).toInt = x.toInt % d) ∧ (x.toInt < 0 → (x % y).toInt = -((-x.toInt) % d)) := c_irem x y d hy
theorem a_i2c (x : Int32) : (x.toUInt32.toUInt16.toUInt32.toInt32.toInt - x.toInt) % 65536 = 0 ∧ 0 ≤ x.toUInt32.toUInt16.toUInt32.toInt32.toInt ∧ x.toUInt32.toUInt16.toUInt32.toInt32.toInt < 65536 := c_i2c x
theorem a_i2b (x : Int32) : (x.toInt8.toInt32.toInt - x.toInt) % 256 = 0 ∧ -128 ≤ x.toInt8.toInt32.toInt ∧ x.toInt8.toInt32.toInt < 128 := c_i2b x
theorem z_i2c {x : Int32} (h : 0 ≤ x.toInt ∧ x.toInt ≤ 65535) : x.toUInt32.toUInt16.toUInt32.toInt32 = x := eqI (by have := a_i2c x; omega)
theorem z_i2b {x : Int32} (h : -128 ≤ x.toInt ∧ x.toInt ≤ 127) : x.toInt8.toInt32 = x := eqI (by have := a_i2b x; omega)
theorem z_narC {x : Int32} (h : 0 ≤ x.toInt ∧ x.toInt ≤ 65535) : nar .char x = x := z_i2c h
theorem z_narB {x : Int32} (h : -128 ≤ x.toInt ∧ x.toInt ≤ 127) : nar .byte x = x := z_i2b h
theorem nw_byte {x : Int32} (h : -128 ≤ x.toInt ∧ x.toInt ≤ 127) : narrow .byte (.int x) = .int x := by have e := z_i2b h; have := XT.narrow_b x; rw [e] at this; exact this
theorem nw_bool {x : Int32} (h : 0 ≤ x.toInt ∧ x.toInt ≤ 1) : narrow .boolean (.int x) = .int x := by
  have : x = 0 ∨ x = 1 := by
    rcases (by omega : x.toInt = 0 ∨ x.toInt = 1) with q | q
    · exact Or.inl (eqI q)
    · exact Or.inr (eqI q)
  rcases this with rfl | rfl <;> rfl
theorem ft_byte {x : Int32} (h : -128 ≤ x.toInt ∧ x.toInt ≤ 127) : fits .byte (.int x) = true := by have := fits_nar_byte x; rw [z_i2b h] at this; exact this
end Jvm.Wk
namespace Jvm.Wk
open Jvm Jvm.ClassFile Sem Op Lib Bundle Jvm.Free Jvm.Stand Jvm.LawKit Jvm.RoadKit
section Walk
variable {Z : State} {EL : Bool × List (String × Nat)} {R : Room} {own nm : String} {bytes : ByteArray} {ml : Nat} {ret : Option FieldType} {Q : Option Value → List Ent → Prop} {D D' : List Ent} {k n pc : Nat} {ls ls' : Array Slot} {st : List Value} {a0 : Array Value}
theorem W.dropAt (i : Nat) (hD : D.eraseIdx i = D') (next : W Z EL R own nm bytes ml ret Q D' k n pc ls st) : W Z EL R own nm bytes ml ret Q D k n pc ls st := W.heap (fun _ _ H => hD ▸ H.sub (List.eraseIdx_sublist ..)) next
theorem Hp.ne {i j : Nat} {x y : Ent} {vm : Vm} {h : Heap} (H : Hp Z EL D vm h) (hij : i ≠ j) (hi : D[i]? = some x) (hj : D[j]? = some y) (w : x.2.1 = true ∨ y.2.1 = true) : x.1 ≠ y.1 := by
  have P := H.2.2.2
  obtain ⟨i1, rfl⟩ := List.getElem?_eq_some_iff.mp hi
  obtain ⟨j1, rfl⟩ := List.getElem?_eq_some_iff.mp hj
  rw [List.pairwise_iff_getElem] at P
  rcases Nat.lt_or_gt_of_ne hij with q | q
  · exact P i j i1 j1 q w
  · exact (P j i j1 i1 q w.symm).symm
theorem wS_of (h1 : (Cond.initialized "java/lang/String").before a0 Z = true) (h2 : (Cond.instantiable "java/lang/String" 4).before a0 Z = true) (h3 : (Cond.arrayClass .byte).before a0 Z = true) (h4 : (Cond.laysFinal "java/lang/String" "java/lang/String" "value" "[B").before a0 Z = true) (h5 : (Cond.laysFinal "java/lang/String" "java/lang/String" "coder" "B").before a0 Z = true) (h6 : (Cond.soleField "java/lang/String" "value").before a0 Z = true) (h7 : (Cond.soleField "java/lang/String" "coder").before a0 Z = true) :
    ∀ a ∈ Bundle.stringAtoms, a.before a0 Z = true := fun a ha => by
  simp only [Bundle.stringAtoms, Bundle.sN, List.mem_cons, List.not_mem_nil, or_false] at ha
  rcases ha with rfl | rfl | rfl | rfl | rfl | rfl | rfl <;> assumption
theorem W.isubK {x y : Int32} (z : Int32) (hd : decode bytes pc = .ok (.isub, 1)) (hz : x - y = z) (next : W Z EL R own nm bytes ml ret Q D k n (pc + 1) ls (.int z :: st)) : W Z EL R own nm bytes ml ret Q D k n pc ls (.int y :: .int x :: st) := W.isub hd (hz ▸ next)
theorem W.iushrK {x y : Int32} (z : Int32) (hd : decode bytes pc = .ok (.iushr, 1)) (hz : XT.ushr x y = z) (next : W Z EL R own nm bytes ml ret Q D k n (pc + 1) ls (.int z :: st)) : W Z EL R own nm bytes ml ret Q D k n pc ls (.int y :: .int x :: st) := W.iushr hd (hz ▸ next)
theorem W.i2bK {x : Int32} (z : Int32) (hd : decode bytes pc = .ok (.i2b, 1)) (hz : x.toInt8.toInt32 = z) (next : W Z EL R own nm bytes ml ret Q D k n (pc + 1) ls (.int z :: st)) : W Z EL R own nm bytes ml ret Q D k n pc ls (.int x :: st) := W.i2b hd (hz ▸ next)
theorem W.i2cK {x : Int32} (z : Int32) (hd : decode bytes pc = .ok (.i2c, 1)) (hz : x.toUInt32.toUInt16.toUInt32.toInt32 = z) (next : W Z EL R own nm bytes ml ret Q D k n (pc + 1) ls (.int z :: st)) : W Z EL R own nm bytes ml ret Q D k n pc ls (.int x :: st) := W.i2c hd (hz ▸ next)
theorem W.iincK {i : Nat} {cst : Int} {x : Int32} (v r : Int32) (hd : decode bytes pc = .ok (.iinc i cst, 3)) (hv : Int32.ofInt cst = v) (hl : ls[i]? = some (.val (.int x))) (hr : x + v = r) (hl' : storeLocals ls i (.int r) = some ls') (next : W Z EL R own nm bytes ml ret Q D k n (pc + 3) ls' st) : W Z EL R own nm bytes ml ret Q D k n pc ls st :=
  W.iinc v hd hv hl (hr ▸ hl') next
end Walk
theorem narU (v : Value) {t : FieldType} (h : v.isRef = true := by assumption) : narrow t v = v := by
  cases v <;> first | (cases h; done) | (cases t <;> rfl)
theorem fitU {v : Value} {t : FieldType} (h : v.isRef = true) (ht : t.isReference = true) : fits t v = true := by
  cases v <;> first | (cases h; done) | (cases t <;> first | (cases ht; done) | rfl)
theorem ft_bool {x : Int32} (h : 0 ≤ x.toInt ∧ x.toInt ≤ 1) : fits .boolean (.int x) = true := by
  rcases (by omega : x.toInt = 0 ∨ x.toInt = 1) with q | q
  · have : x = 0 := eqI q
    subst this; rfl
  · have : x = 1 := eqI q
    subst this; rfl
section L
variable {x y : Int64}
end L
def si (Z : State) (C n d : String) : Int32 := match (Term.static C n d).eval #[] Z none [] Z with | some (.int x) => x | _ => 0
theorem eval_static {Z : State} {a b : Array Value} {C n d : String} : (Term.static C n d).eval a Z none [] Z = (Term.static C n d).eval b Z none [] Z := rfl
theorem si_of {Z : State} {C n d : String} {x : Int32} {a : Array Value} (h : (Term.static C n d).eval a Z none [] Z = some (.int x)) : si Z C n d = x := by
  unfold si; rw [eval_static (b := a), h]
end Jvm.Wk
namespace Jvm.Wk
open Jvm Jvm.ClassFile Sem Op Lib Bundle Jvm.Free Jvm.Stand Jvm.LawKit Jvm.RoadKit
section Natives
variable {Z : State} {EL : Bool × List (String × Nat)} {R : Room} {own nm : String} {bytes : ByteArray} {ml : Nat} {ret : Option FieldType} {Q : Option Value → List Ent → Prop} {D D' : List Ent} {k n pc : Nat} {ls ls' : Array Slot} {st : List Value} {a0 : Array Value} {idx : Nat}
end Natives
end Jvm.Wk
namespace Jvm.Wk
open Jvm Jvm.ClassFile Sem Op Lib Bundle Jvm.Free Jvm.Stand Jvm.LawKit Jvm.RoadKit
section Start
variable {s : State} {args : Array Value} {C n d C' n' d' K : String}
theorem sf_int (hi : (Cond.initializedFor C n d).before args s = true) (h : (Cond.isInt (.static C n d)).before args s = true) : Sta s s.heap C n d (.int (si s C n d)) := by
  obtain ⟨x, e⟩ := is_v (Cond.before_iff.mp h)
  rw [si_of e]; exact Sta.start e (Or.inl hi)
theorem sf_nz (h : (Cond.isInt (.static C n d)).before args s = true) (hz : (Cond.not (.eq (.static C n d) (.int 0))).before args s = true) : (si s C n d).toInt ≠ 0 := by
  obtain ⟨x, e⟩ := is_v (Cond.before_iff.mp h)
  rw [si_of e]
  intro q
  have : x = 0 := eqI q
  subst this
  have h2 := not_v (Cond.before_iff.mp hz)
  rw [eq_i e (Term.int_eval 0) rfl] at h2
  cases h2
end Start
theorem CHv.nil {Z : State} {vm : Vm} {h : Heap} : CHv Z [] vm h := fun p hp => by cases hp
theorem Hp.start {Z : State} {EL : Bool × List (String × Nat)} (H : CHv Z EL.2 Z.vm Z.heap) : Hp Z EL [] Z.vm Z.heap := ⟨⟨Nat.le_refl _, fun _ _ q => q⟩, H, fun x hx => (by cases hx), List.Pairwise.nil⟩
end Jvm.Wk
namespace Jvm.Wk
open Jvm Jvm.ClassFile Sem Op Lib Bundle Jvm.Free Jvm.Stand Jvm.LawKit Jvm.RoadKit
theorem Con.mono {Z : State} {EL : Bool × List (String × Nat)} {y : MethodName} {bytes : ByteArray} {maxL : Nat} {ret : Option FieldType} {rm : Room} {as : List Value} {D : List Ent} {Q Q' : Option Value → List Ent → Prop} (h : Con Z EL y bytes maxL ret rm as D Q) (q : ∀ v D', Q v D' → Q' v D') : Con Z EL y bytes maxL ret rm as D Q' := by
  intro hE l ws
  refine MetFree.mono (h hE l ws) (fun _ _ p => p) (fun _ _ _ _ _ p => p) ?_
  intro a s o t _ r
  obtain ⟨v, L, h1, h2, ⟨D', h3, h4⟩, h5⟩ := r
  exact ⟨v, L, h1, h2, ⟨D', h3, q v D' h4⟩, h5⟩
end Jvm.Wk
namespace Jvm.Wk
open Jvm Jvm.ClassFile Sem Op Lib Bundle Jvm.Free Jvm.Stand Jvm.LawKit Jvm.RoadKit
end Jvm.Wk
namespace Jvm.Wk
open Jvm Jvm.ClassFile Sem Op Lib Bundle Jvm.Free Jvm.Stand Jvm.LawKit Jvm.RoadKit
def ta (Z : State) (t : Term) : Addr := match t.eval #[] Z none [] Z with | some (.ref a) => a | _ => 0
section Old
variable {s : State} {args : Array Value} {t : Term} {O f d K : String} {EL : Bool × List (String × Nat)} {D : List Ent} {a : Addr} {de : Desc}
theorem ta_of (e : t.eval #[] s none [] s = t.eval args s none [] s) (h : t.eval args s none [] s = some (.ref a)) : ta s t = a := by
  unfold ta; rw [e, h]
theorem t_sta {C n dd : String} (hi : (Cond.initializedFor C n dd).before args s = true ∨ ((Cond.initialized C).before args s = true ∧ (Cond.laysStatic C n dd).before args s = true)) (h : ∃ x, (Term.static C n dd).eval args s none [] s = some (.ref x)) : Sta s s.heap C n dd (.ref (ta s (.static C n dd))) := by
  obtain ⟨x, hx⟩ := h
  rw [ta_of (args := args) (t := .static C n dd) rfl hx]; exact Sta.start hx hi
end Old
end Jvm.Wk
namespace Jvm.Wk
end Jvm.Wk
namespace Jvm.Wk
open Jvm Jvm.ClassFile Sem Op Lib Bundle Jvm.Free Jvm.Stand Jvm.LawKit Jvm.RoadKit
end Jvm.Wk
namespace Jvm.Wk
open Jvm Jvm.ClassFile Sem Op Lib Bundle Jvm.Free Jvm.Stand Jvm.LawKit Jvm.RoadKit
theorem W.ldcF {Z : State} {EL : Bool × List (String × Nat)} {R : Room} {own nm : String} {bytes : ByteArray} {ml : Nat} {ret : Option FieldType} {Q : Option Value → List Ent → Prop} {D : List Ent} {k n pc : Nat} {ls : Array Slot} {st : List Value} {a0 : Array Value} {idx : Nat} {v : UInt32} (hd : decode bytes pc = .ok (.ldc idx, 2)) (w : (Cond.constantFloat own idx v).before a0 Z = true) (next : W Z EL R own nm bytes ml ret Q D k n (pc + 2) ls (.float v :: st)) : W Z EL R own nm bytes ml ret Q D k n pc ls st :=
  W.still (fun X hx hby hml hown hZ hH => ⟨_, X, rfl, fun target ht => X.ldcFloatC hx hown (mvT hZ w) (g := mkF _ pc ls st) rfl (hb hby hd) target ht⟩) next
end Jvm.Wk
namespace Jvm.Wk
open Jvm Jvm.ClassFile Sem Op Lib Bundle Jvm.Free Jvm.Stand Jvm.LawKit Jvm.RoadKit
theorem Hp.neS {Z : State} {EL : Bool × List (String × Nat)} {D : List Ent} {vm : Vm} {h : Heap} {a a' b b' : Addr} {w w' x x' : Bool} {C C' O f d ad ad' : String} {fs fs' : List Fd} {ty ty' : FieldType} {vs vs' : List Value} (H : Hp Z EL D vm h) (m1 : (a, w, .inl (C, fs)) ∈ D) (f1 : (O, f, d, .ref b) ∈ fs) (m2 : (b, x, .inr (ad, ty, vs)) ∈ D) (n1 : (a', w', .inl (C', fs')) ∈ D) (g1 : (O, f, d, .ref b') ∈ fs') (n2 : (b', x', .inr (ad', ty', vs')) ∈ D) (hne : vs ≠ vs') : a ≠ a' := by
  intro e
  subst e
  obtain ⟨c1, cf1, k1, i1, j1, p1, p2, -, -, -, -, p7⟩ := (H.2.2.1 _ m1).1.2 _ f1
  obtain ⟨c2, cf2, k2, i2, j2, q1, q2, -, -, -, -, q7⟩ := (H.2.2.1 _ n1).1.2 _ g1
  cases p1.symm.trans q1
  cases p2.symm.trans q2
  have eb : b = b' := by
    have := p7.symm.trans q7
    simpa using this
  subst eb
  obtain ⟨d1, A1, r1, -⟩ := (H.2.2.1 _ m2).1
  obtain ⟨d2, A2, r2, -⟩ := (H.2.2.1 _ n2).1
  cases A1.1.symm.trans A2.1
  exact hne (by have := r1.symm.trans r2; simpa using this)
end Jvm.Wk

namespace Jvm.Pilot.@@N@@
open Jvm Jvm.ClassFile Sem Op Lib Jvm.Free Jvm.Stand Jvm.LawKit Jvm.RoadKit Bundle Jvm.Wk Jvm.Pilot.@@N@@.Jvm.D
abbrev EL : Bool × List (String × Nat) := (false, consts_1)
def csv (Z : State) : Int32 := si Z "java/lang/String" "COMPACT_STRINGS" "Z"
def g1 (Z : State) : Addr := ta Z (Jvm.Term.static "java/util/ImmutableCollections" "EMPTY_LIST" "Ljava/util/ImmutableCollections$ListN;")
def g2 (Z : State) : Addr := ta Z (Jvm.Term.static "java/util/ArrayList" "DEFAULTCAPACITY_EMPTY_ELEMENTDATA" "[Ljava/lang/Object;")
def SF (Z : State) : Prop := Sta Z Z.heap "java/lang/String" "COMPACT_STRINGS" "Z" (.int (csv Z)) ∧ (csv Z).toInt ≠ 0 ∧ Sta Z Z.heap "java/util/ImmutableCollections" "EMPTY_LIST" "Ljava/util/ImmutableCollections$ListN;" (.ref (g1 Z)) ∧ Sta Z Z.heap "java/util/ArrayList" "DEFAULTCAPACITY_EMPTY_ELEMENTDATA" "[Ljava/lang/Object;" (.ref (g2 Z)) ∧ True
set_option maxRecDepth 65536
abbrev HW (a0 : Array Value) (Z : State) : Prop := ∀ d ∈ tables_1, d.before a0 Z = true
abbrev rmm (a b c d : Nat) : Room := { frames := a, cells := b, slots := c, locals := d }
theorem w0 {Z a0} (hw : HW a0 Z) : ((Jvm.Cond.arrayClass Jvm.ClassFile.FieldType.char) : Jvm.Cond).before a0 Z = true := hw _ (List.mem_of_getElem? (i := 0) rfl)
theorem ix2 : Idx (2 : Int32) 2 := by unfold Idx; decide
theorem q255 : (255 : Int32).toInt = 255 := by decide
theorem am_255 (x : Int32) : (x &&& (255 : Int32)).toInt = x.toInt % 256 := a_and x 255 8 256 (by decide) (by decide) (by decide)
theorem ix0 : Idx (0 : Int32) 0 := by unfold Idx; decide
theorem q8 : (8 : Int32).toInt = 8 := by decide
theorem aushr_8 (x : Int32) : (XT.ushr x (8 : Int32)).toInt = (x.toInt % 4294967296) / 256 := a_ushr x 8 8 256 (by decide) (by decide) (by decide)
theorem ix1 : Idx (1 : Int32) 1 := by unfold Idx; decide
theorem w29 {Z a0} (hw : HW a0 Z) : ((Jvm.Cond.laysFinal "java/lang/String" "java/lang/String" "value" "[B") : Jvm.Cond).before a0 Z = true := hw _ (List.mem_of_getElem? (i := 29) rfl)
theorem w27 {Z a0} (hw : HW a0 Z) : ((Jvm.Cond.laysFinal "java/lang/String" "java/lang/String" "coder" "B") : Jvm.Cond).before a0 Z = true := hw _ (List.mem_of_getElem? (i := 27) rfl)
theorem laString {Z a0} (hw : HW a0 Z) : LaidAll Z a0 "java/lang/String" [("java/lang/String", "value", "[B", .null), ("java/lang/String", "coder", "B", (vi 0))] := ⟨⟨Or.inr (w29 hw), (.array .byte), by decide, rfl⟩, ⟨⟨Or.inr (w27 hw), .byte, by decide, rfl⟩, trivial⟩⟩
theorem w1 {Z a0} (hw : HW a0 Z) : ((Jvm.Cond.classLink "com/example/montaje/montaje/beans/BeanDefinitionGetScopePinLaw" (7 : Nat) "java/lang/String") : Jvm.Cond).before a0 Z = true := hw _ (List.mem_of_getElem? (i := 1) rfl)
theorem w2 {Z a0} (hw : HW a0 Z) : ((Jvm.Cond.instantiable "java/lang/String" (4 : Nat)) : Jvm.Cond).before a0 Z = true := hw _ (List.mem_of_getElem? (i := 2) rfl)
theorem w3 {Z a0} (hw : HW a0 Z) : ((Jvm.Cond.initialized "java/lang/String") : Jvm.Cond).before a0 Z = true := hw _ (List.mem_of_getElem? (i := 3) rfl)
theorem d1_0 : decode jdk_42_method_3_code 0 = .ok (.aload_n 0, 1) := by decide +kernel
theorem d1_1 : decode jdk_42_method_3_code 1 = .ok (.aload_n 1, 1) := by decide +kernel
theorem d1_2 : decode jdk_42_method_3_code 2 = .ok (.iconst 0, 1) := by decide +kernel
theorem d1_3 : decode jdk_42_method_3_code 3 = .ok (.aload_n 1, 1) := by decide +kernel
theorem d1_4 : decode jdk_42_method_3_code 4 = .ok (.arraylength, 1) := by decide +kernel
theorem d1_5 : decode jdk_42_method_3_code 5 = .ok (.aconst_null, 1) := by decide +kernel
theorem d1_6 : decode jdk_42_method_3_code 6 = .ok (.invokespecial 27, 3) := by decide +kernel
theorem d2_0 : decode jdk_42_method_149_code 0 = .ok (.aload_n 0, 1) := by decide +kernel
theorem d2_1 : decode jdk_42_method_149_code 1 = .ok (.invokespecial 1, 3) := by decide +kernel
theorem w11 {Z a0} (hw : HW a0 Z) : ((Jvm.Cond.methodLink "java/lang/String" (1 : Nat) ({ cls := "java/lang/Object", name := "<init>", desc := "()V" } : Jvm.MethodName)) : Jvm.Cond).before a0 Z = true := hw _ (List.mem_of_getElem? (i := 11) rfl)
theorem w12 {Z a0} (hw : HW a0 Z) : ((Jvm.Cond.instanceMethod ({ cls := "java/lang/Object", name := "<init>", desc := "()V" } : Jvm.MethodName)) : Jvm.Cond).before a0 Z = true := hw _ (List.mem_of_getElem? (i := 12) rfl)
theorem w13 {Z a0} (hw : HW a0 Z) : ((Jvm.Cond.code ({ cls := "java/lang/Object", name := "<init>", desc := "()V" } : Jvm.MethodName) object_method_1_code (1 : Nat) (Option.none : Option Jvm.ClassFile.FieldType)) : Jvm.Cond).before a0 Z = true := hw _ (List.mem_of_getElem? (i := 13) rfl)
theorem d2_4 : decode jdk_42_method_149_code 4 = .ok (.iload_n 3, 1) := by decide +kernel
theorem d2_5 : decode jdk_42_method_149_code 5 = .ok (.ifCond .ne 22, 3) := by decide +kernel
theorem d2_27 : decode jdk_42_method_149_code 27 = .ok (.getstatic 38, 3) := by decide +kernel
theorem w14 {Z a0} (hw : HW a0 Z) : ((Jvm.Cond.fieldLink "java/lang/String" (38 : Nat) "java/lang/String" "COMPACT_STRINGS" "Z") : Jvm.Cond).before a0 Z = true := hw _ (List.mem_of_getElem? (i := 14) rfl)
theorem d2_30 : decode jdk_42_method_149_code 30 = .ok (.ifCond .eq 28, 3) := by decide +kernel
theorem q0 : (0 : Int32).toInt = 0 := by decide
theorem d2_33 : decode jdk_42_method_149_code 33 = .ok (.aload_n 1, 1) := by decide +kernel
theorem d2_34 : decode jdk_42_method_149_code 34 = .ok (.iload_n 2, 1) := by decide +kernel
theorem d2_35 : decode jdk_42_method_149_code 35 = .ok (.iload_n 3, 1) := by decide +kernel
theorem d2_36 : decode jdk_42_method_149_code 36 = .ok (.invokestatic 177, 3) := by decide +kernel
theorem d4_0 : decode jdk_52_method_16_code 0 = .ok (.iload_n 2, 1) := by decide +kernel
theorem d4_1 : decode jdk_52_method_16_code 1 = .ok (.newarray .byte, 2) := by decide +kernel
theorem w19 {Z a0} (hw : HW a0 Z) : ((Jvm.Cond.arrayClass Jvm.ClassFile.FieldType.byte) : Jvm.Cond).before a0 Z = true := hw _ (List.mem_of_getElem? (i := 19) rfl)
theorem d4_3 : decode jdk_52_method_16_code 3 = .ok (.astore_n 3, 1) := by decide +kernel
theorem d4_4 : decode jdk_52_method_16_code 4 = .ok (.aload_n 0, 1) := by decide +kernel
theorem d4_5 : decode jdk_52_method_16_code 5 = .ok (.iload_n 1, 1) := by decide +kernel
theorem d4_6 : decode jdk_52_method_16_code 6 = .ok (.aload_n 3, 1) := by decide +kernel
theorem d4_7 : decode jdk_52_method_16_code 7 = .ok (.iconst 0, 1) := by decide +kernel
theorem d4_8 : decode jdk_52_method_16_code 8 = .ok (.iload_n 2, 1) := by decide +kernel
theorem d4_9 : decode jdk_52_method_16_code 9 = .ok (.invokestatic 115, 3) := by decide +kernel
theorem d5_0 : decode jdk_52_method_21_code 0 = .ok (.iconst 0, 1) := by decide +kernel
theorem d5_1 : decode jdk_52_method_21_code 1 = .ok (.istore 5, 2) := by decide +kernel
theorem d5_3 : decode jdk_52_method_21_code 3 = .ok (.iload 5, 2) := by decide +kernel
theorem d5_5 : decode jdk_52_method_21_code 5 = .ok (.iload 4, 2) := by decide +kernel
theorem d5_7 : decode jdk_52_method_21_code 7 = .ok (.if_icmp .ge 37, 3) := by decide +kernel
theorem d5_10 : decode jdk_52_method_21_code 10 = .ok (.aload_n 0, 1) := by decide +kernel
theorem d5_11 : decode jdk_52_method_21_code 11 = .ok (.iload_n 1, 1) := by decide +kernel
theorem d5_12 : decode jdk_52_method_21_code 12 = .ok (.caload, 1) := by decide +kernel
theorem d5_13 : decode jdk_52_method_21_code 13 = .ok (.istore 6, 2) := by decide +kernel
theorem d5_15 : decode jdk_52_method_21_code 15 = .ok (.iload 6, 2) := by decide +kernel
theorem d5_17 : decode jdk_52_method_21_code 17 = .ok (.sipush 255, 3) := by decide +kernel
theorem d5_20 : decode jdk_52_method_21_code 20 = .ok (.if_icmp .le 6, 3) := by decide +kernel
theorem d5_26 : decode jdk_52_method_21_code 26 = .ok (.aload_n 2, 1) := by decide +kernel
theorem d5_27 : decode jdk_52_method_21_code 27 = .ok (.iload_n 3, 1) := by decide +kernel
theorem d5_28 : decode jdk_52_method_21_code 28 = .ok (.iload 6, 2) := by decide +kernel
theorem d5_30 : decode jdk_52_method_21_code 30 = .ok (.i2b, 1) := by decide +kernel
theorem d5_31 : decode jdk_52_method_21_code 31 = .ok (.bastore, 1) := by decide +kernel
theorem d5_32 : decode jdk_52_method_21_code 32 = .ok (.iinc 1 1, 3) := by decide +kernel
theorem d5_35 : decode jdk_52_method_21_code 35 = .ok (.iinc 3 1, 3) := by decide +kernel
theorem d5_38 : decode jdk_52_method_21_code 38 = .ok (.iinc 5 1, 3) := by decide +kernel
theorem d5_41 : decode jdk_52_method_21_code 41 = .ok (.goto (-38), 3) := by decide +kernel
theorem d5_44 : decode jdk_52_method_21_code 44 = .ok (.iload 4, 2) := by decide +kernel
theorem d5_46 : decode jdk_52_method_21_code 46 = .ok (.ireturn, 1) := by decide +kernel
theorem c4_compress {Z a0} (hw : HW a0 Z) (hs : SF Z) {p1 p2 : Addr} {x1 : Int32} (hx1 : 0 ≤ x1.toInt ∧ x1.toInt ≤ 255) {x2 : Int32} (hx2 : 0 ≤ x2.toInt ∧ x2.toInt ≤ 255) {ad_p2 : String} {w_p1 : Bool} {ad_p1 : String} {F : List Ent} (mp1 : (p1, w_p1, ar ad_p1 .char [(vi x1), (vi x2)]) ∈ F) : Con Z EL (⟨"java/lang/StringUTF16", "compress", "([CI[BII)I"⟩ : MethodName) jdk_52_method_21_code 7 (Option.some Jvm.ClassFile.FieldType.int) (rmm 0 0 0 0) [(vr p1), (vi 0), (vr p2), (vi 0), (vi 2)] ((p2, true, ar ad_p2 .byte [(vi 0), (vi 0)]) :: F) (fun v D' => (v = some (vi 2) ∧ (p2, true, ar ad_p2 .byte [(vi x1.toInt8.toInt32), (vi x2.toInt8.toInt32)]) :: F = D')) := by
  refine Con.of (ls := #[rv p1, iv 0, rv p2, iv 0, iv 2, uu, uu]) (by decide +kernel) rfl ?_
  show W Z EL _ "java/lang/StringUTF16" "compress" _ _ _ _ _ _ _ _ _ _
  refine W.iconst (pc := 0) (0) d5_0 (by decide) ?_
  refine W.istore (pc := 1) (ls' := #[rv p1, iv 0, rv p2, iv 0, iv 2, iv 0, uu]) d5_1 rfl ?_
  refine W.iload (pc := 3) d5_3 rfl ?_
  refine W.iload (pc := 5) d5_5 rfl ?_
  refine W.icmpN (pc := 7) d5_7 (n_ge (by decide)) ?_
  refine W.aloadN (pc := 10) d5_10 rfl rfl ?_
  refine W.iloadN (pc := 11) d5_11 rfl ?_
  refine W.caload (pc := 12) 0 d5_12 (mS mp1) ix0 rfl ?_
  refine W.istore (pc := 13) (ls' := #[rv p1, iv 0, rv p2, iv 0, iv 2, iv 0, iv x1]) d5_13 rfl ?_
  refine W.iload (pc := 15) d5_15 rfl ?_
  refine W.sipush (pc := 17) (255) d5_17 (by decide) ?_
  refine W.icmpY (pc := 20) 26 d5_20 (y_le (by have := q255; omega)) (by decide) ?_
  refine W.aloadN (pc := 26) d5_26 rfl rfl ?_
  refine W.iloadN (pc := 27) d5_27 rfl ?_
  refine W.iload (pc := 28) d5_28 rfl ?_
  refine W.i2b (pc := 30) d5_30 ?_
  refine W.bastore (pc := 31) (D' := (p2, true, ar ad_p2 .byte [(vi x1.toInt8.toInt32), (vi 0)]) :: F) 0 0 d5_31 rfl ix0 (Nat.le_of_ble_eq_true rfl) (z_narB (by have := a_i2b x1; omega)) rfl ?_
  refine W.iincK (pc := 32) (ls' := #[rv p1, iv 1, rv p2, iv 0, iv 2, iv 0, iv x1]) (1) (1 : Int32) d5_32 (by decide) rfl (by decide) rfl ?_
  refine W.iincK (pc := 35) (ls' := #[rv p1, iv 1, rv p2, iv 1, iv 2, iv 0, iv x1]) (1) (1 : Int32) d5_35 (by decide) rfl (by decide) rfl ?_
  refine W.iincK (pc := 38) (ls' := #[rv p1, iv 1, rv p2, iv 1, iv 2, iv 1, iv x1]) (1) (1 : Int32) d5_38 (by decide) rfl (by decide) rfl ?_
  refine W.goto (pc := 41) 3 d5_41 (by decide) ?_
  refine W.iload (pc := 3) d5_3 rfl ?_
  refine W.iload (pc := 5) d5_5 rfl ?_
  refine W.icmpN (pc := 7) d5_7 (n_ge (by decide)) ?_
  refine W.aloadN (pc := 10) d5_10 rfl rfl ?_
  refine W.iloadN (pc := 11) d5_11 rfl ?_
  refine W.caload (pc := 12) 1 d5_12 (mS mp1) ix1 rfl ?_
  refine W.istore (pc := 13) (ls' := #[rv p1, iv 1, rv p2, iv 1, iv 2, iv 1, iv x2]) d5_13 rfl ?_
  refine W.iload (pc := 15) d5_15 rfl ?_
  refine W.sipush (pc := 17) (255) d5_17 (by decide) ?_
  refine W.icmpY (pc := 20) 26 d5_20 (y_le (by have := q255; omega)) (by decide) ?_
  refine W.aloadN (pc := 26) d5_26 rfl rfl ?_
  refine W.iloadN (pc := 27) d5_27 rfl ?_
  refine W.iload (pc := 28) d5_28 rfl ?_
  refine W.i2b (pc := 30) d5_30 ?_
  refine W.bastore (pc := 31) (D' := (p2, true, ar ad_p2 .byte [(vi x1.toInt8.toInt32), (vi x2.toInt8.toInt32)]) :: F) 0 1 d5_31 rfl ix1 (Nat.le_of_ble_eq_true rfl) (z_narB (by have := a_i2b x2; omega)) rfl ?_
  refine W.iincK (pc := 32) (ls' := #[rv p1, iv 2, rv p2, iv 1, iv 2, iv 1, iv x2]) (1) (2 : Int32) d5_32 (by decide) rfl (by decide) rfl ?_
  refine W.iincK (pc := 35) (ls' := #[rv p1, iv 2, rv p2, iv 2, iv 2, iv 1, iv x2]) (1) (2 : Int32) d5_35 (by decide) rfl (by decide) rfl ?_
  refine W.iincK (pc := 38) (ls' := #[rv p1, iv 2, rv p2, iv 2, iv 2, iv 2, iv x2]) (1) (2 : Int32) d5_38 (by decide) rfl (by decide) rfl ?_
  refine W.goto (pc := 41) 3 d5_41 (by decide) ?_
  refine W.iload (pc := 3) d5_3 rfl ?_
  refine W.iload (pc := 5) d5_5 rfl ?_
  refine W.icmpY (pc := 7) 44 d5_7 (y_ge (by decide)) (by decide) ?_
  refine W.iload (pc := 44) d5_44 rfl ?_
  exact W.ireturn (pc := 46) d5_46 rfl (Or.inl rfl) rfl (by decide) ⟨rfl, rfl⟩
theorem pd__CI_BII_I : parseMethodDescriptor "([CI[BII)I" = some ⟨[(.array .char), .int, (.array .byte), .int, .int], some .int⟩ := by decide +kernel
theorem w20 {Z a0} (hw : HW a0 Z) : ((Jvm.Cond.methodLink "java/lang/StringUTF16" (115 : Nat) ({ cls := "java/lang/StringUTF16", name := "compress", desc := "([CI[BII)I" } : Jvm.MethodName)) : Jvm.Cond).before a0 Z = true := hw _ (List.mem_of_getElem? (i := 20) rfl)
theorem w21 {Z a0} (hw : HW a0 Z) : ((Jvm.Cond.static ({ cls := "java/lang/StringUTF16", name := "compress", desc := "([CI[BII)I" } : Jvm.MethodName)) : Jvm.Cond).before a0 Z = true := hw _ (List.mem_of_getElem? (i := 21) rfl)
theorem w17 {Z a0} (hw : HW a0 Z) : ((Jvm.Cond.initialized "java/lang/StringUTF16") : Jvm.Cond).before a0 Z = true := hw _ (List.mem_of_getElem? (i := 17) rfl)
theorem w22 {Z a0} (hw : HW a0 Z) : ((Jvm.Cond.code ({ cls := "java/lang/StringUTF16", name := "compress", desc := "([CI[BII)I" } : Jvm.MethodName) jdk_52_method_21_code (7 : Nat) (Option.some Jvm.ClassFile.FieldType.int)) : Jvm.Cond).before a0 Z = true := hw _ (List.mem_of_getElem? (i := 22) rfl)
theorem d4_12 : decode jdk_52_method_16_code 12 = .ok (.istore 4, 2) := by decide +kernel
theorem d4_14 : decode jdk_52_method_16_code 14 = .ok (.iload 4, 2) := by decide +kernel
theorem d4_16 : decode jdk_52_method_16_code 16 = .ok (.iload_n 2, 1) := by decide +kernel
theorem d4_17 : decode jdk_52_method_16_code 17 = .ok (.if_icmp .eq 40, 3) := by decide +kernel
theorem d4_57 : decode jdk_52_method_16_code 57 = .ok (.aload_n 3, 1) := by decide +kernel
theorem d4_58 : decode jdk_52_method_16_code 58 = .ok (.areturn, 1) := by decide +kernel
theorem c3_compress {Z a0} (hw : HW a0 Z) (hs : SF Z) {p1 : Addr} {x1 : Int32} (hx1 : 0 ≤ x1.toInt ∧ x1.toInt ≤ 255) {x2 : Int32} (hx2 : 0 ≤ x2.toInt ∧ x2.toInt ≤ 255) {w_p1 : Bool} {ad_p1 : String} {F : List Ent} (mp1 : (p1, w_p1, ar ad_p1 .char [(vi x1), (vi x2)]) ∈ F) : Con Z EL (⟨"java/lang/StringUTF16", "compress", "([CII)[B"⟩ : MethodName) jdk_52_method_16_code 6 (Option.some (Jvm.ClassFile.FieldType.array Jvm.ClassFile.FieldType.byte)) (rmm 1 1 2 18) [(vr p1), (vi 0), (vi 2)] (F) (fun v D' => (∃ a1 : Addr, v = some (vr a1) ∧ (a1, true, ar "[B" .byte [(vi x1.toInt8.toInt32), (vi x2.toInt8.toInt32)]) :: F = D')) := by
  refine Con.of (ls := #[rv p1, iv 0, iv 2, uu, uu, uu]) (by decide +kernel) rfl ?_
  show W Z EL _ "java/lang/StringUTF16" "compress" _ _ _ _ _ _ _ _ _ _
  refine W.iloadN (pc := 0) d4_0 rfl ?_
  refine W.newarr (pc := 1) 2 (ad := "[B") (ty := .byte) d4_1 rfl (w19 hw) ix2 rfl (by decide) (by decide) (fun a1 => ?_)
  show W _ _ _ _ _ _ _ _ _ _ _ _ 3 _ [(vr a1)]
  refine W.astoreN (pc := 3) (ls' := #[rv p1, iv 0, iv 2, rv a1, uu, uu]) d4_3 rfl rfl ?_
  refine W.aloadN (pc := 4) d4_4 rfl rfl ?_
  refine W.iloadN (pc := 5) d4_5 rfl ?_
  refine W.aloadN (pc := 6) d4_6 rfl rfl ?_
  refine W.iconst (pc := 7) (0) d4_7 (by decide) ?_
  refine W.iloadN (pc := 8) d4_8 rfl ?_
  refine W.callS (pc := 9) (as := [(vr p1), (vi 0), (vr a1), (vi 0), (vi 2)]) 0 [] d4_9 (w20 hw) (w21 hw) (w17 hw) (w22 hw) (c4_compress hw hs (p1 := p1) (p2 := a1) (x1 := x1) (hx1 := hx1) (x2 := x2) (hx2 := hx2) (mp1 := mp1)) (by decide) pd__CI_BII_I rfl rfl rfl rfl (by decide) (fun v D' h => ?_)
  obtain ⟨rfl, rfl⟩ := h
  show W _ _ _ _ _ _ _ _ _ _ _ _ 12 _ [(vi 2)]
  refine W.istore (pc := 12) (ls' := #[rv p1, iv 0, iv 2, rv a1, iv 2, uu]) d4_12 rfl ?_
  refine W.iload (pc := 14) d4_14 rfl ?_
  refine W.iloadN (pc := 16) d4_16 rfl ?_
  refine W.icmpY (pc := 17) 57 d4_17 (y_eq (by decide)) (by decide) ?_
  refine W.aloadN (pc := 57) d4_57 rfl rfl ?_
  exact W.areturn (pc := 58) d4_58 rfl rfl rfl (by decide) ⟨a1, rfl, rfl⟩
theorem pd__CII__B : parseMethodDescriptor "([CII)[B" = some ⟨[(.array .char), .int, .int], some (.array .byte)⟩ := by decide +kernel
theorem w15 {Z a0} (hw : HW a0 Z) : ((Jvm.Cond.methodLink "java/lang/String" (177 : Nat) ({ cls := "java/lang/StringUTF16", name := "compress", desc := "([CII)[B" } : Jvm.MethodName)) : Jvm.Cond).before a0 Z = true := hw _ (List.mem_of_getElem? (i := 15) rfl)
theorem w16 {Z a0} (hw : HW a0 Z) : ((Jvm.Cond.static ({ cls := "java/lang/StringUTF16", name := "compress", desc := "([CII)[B" } : Jvm.MethodName)) : Jvm.Cond).before a0 Z = true := hw _ (List.mem_of_getElem? (i := 16) rfl)
theorem w18 {Z a0} (hw : HW a0 Z) : ((Jvm.Cond.code ({ cls := "java/lang/StringUTF16", name := "compress", desc := "([CII)[B" } : Jvm.MethodName) jdk_52_method_16_code (6 : Nat) (Option.some (Jvm.ClassFile.FieldType.array Jvm.ClassFile.FieldType.byte))) : Jvm.Cond).before a0 Z = true := hw _ (List.mem_of_getElem? (i := 18) rfl)
theorem d2_39 : decode jdk_42_method_149_code 39 = .ok (.astore 5, 2) := by decide +kernel
theorem d2_41 : decode jdk_42_method_149_code 41 = .ok (.aload_n 0, 1) := by decide +kernel
theorem d2_42 : decode jdk_42_method_149_code 42 = .ok (.aload 5, 2) := by decide +kernel
theorem d2_44 : decode jdk_42_method_149_code 44 = .ok (.iload_n 3, 1) := by decide +kernel
theorem d2_45 : decode jdk_42_method_149_code 45 = .ok (.invokestatic 47, 3) := by decide +kernel
theorem d6_0 : decode jdk_52_method_15_code 0 = .ok (.iload_n 1, 1) := by decide +kernel
theorem d6_1 : decode jdk_52_method_15_code 1 = .ok (.aload_n 0, 1) := by decide +kernel
theorem d6_2 : decode jdk_52_method_15_code 2 = .ok (.arraylength, 1) := by decide +kernel
theorem d6_3 : decode jdk_52_method_15_code 3 = .ok (.isub, 1) := by decide +kernel
theorem d6_4 : decode jdk_52_method_15_code 4 = .ok (.bipush 31, 2) := by decide +kernel
theorem d6_6 : decode jdk_52_method_15_code 6 = .ok (.iushr, 1) := by decide +kernel
theorem d6_7 : decode jdk_52_method_15_code 7 = .ok (.i2b, 1) := by decide +kernel
theorem d6_8 : decode jdk_52_method_15_code 8 = .ok (.ireturn, 1) := by decide +kernel
theorem c5_coderFromArrayLen {Z a0} (hw : HW a0 Z) (hs : SF Z) {p1 : Addr} {x1 : Int32} (hx1 : -128 ≤ x1.toInt ∧ x1.toInt ≤ 127) {x2 : Int32} (hx2 : -128 ≤ x2.toInt ∧ x2.toInt ≤ 127) {w_p1 : Bool} {ad_p1 : String} {F : List Ent} (mp1 : (p1, w_p1, ar ad_p1 .byte [(vi x1), (vi x2)]) ∈ F) : Con Z EL (⟨"java/lang/StringUTF16", "coderFromArrayLen", "([BI)B"⟩ : MethodName) jdk_52_method_15_code 2 (Option.some Jvm.ClassFile.FieldType.byte) (rmm 0 0 0 0) [(vr p1), (vi 2)] (F) (fun v D' => (v = some (vi 0) ∧ F = D')) := by
  refine Con.of (ls := #[rv p1, iv 2]) (by decide +kernel) rfl ?_
  show W Z EL _ "java/lang/StringUTF16" "coderFromArrayLen" _ _ _ _ _ _ _ _ _ _
  refine W.iloadN (pc := 0) d6_0 rfl ?_
  refine W.aloadN (pc := 1) d6_1 rfl rfl ?_
  refine W.alen (pc := 2) (2) d6_2 mp1 rfl ?_
  refine W.isubK (pc := 3) (0 : Int32) d6_3 (by decide) ?_
  refine W.bipush (pc := 4) (31) d6_4 (by decide) ?_
  refine W.iushrK (pc := 6) (0 : Int32) d6_6 (by decide) ?_
  refine W.i2bK (pc := 7) (0 : Int32) d6_7 (by decide) ?_
  exact W.ireturn (pc := 8) d6_8 rfl (Or.inr (Or.inr (Or.inl rfl))) (nw_byte (by decide)) (by decide) ⟨rfl, rfl⟩
theorem pd__BI_B : parseMethodDescriptor "([BI)B" = some ⟨[(.array .byte), .int], some .byte⟩ := by decide +kernel
theorem w23 {Z a0} (hw : HW a0 Z) : ((Jvm.Cond.methodLink "java/lang/String" (47 : Nat) ({ cls := "java/lang/StringUTF16", name := "coderFromArrayLen", desc := "([BI)B" } : Jvm.MethodName)) : Jvm.Cond).before a0 Z = true := hw _ (List.mem_of_getElem? (i := 23) rfl)
theorem w24 {Z a0} (hw : HW a0 Z) : ((Jvm.Cond.static ({ cls := "java/lang/StringUTF16", name := "coderFromArrayLen", desc := "([BI)B" } : Jvm.MethodName)) : Jvm.Cond).before a0 Z = true := hw _ (List.mem_of_getElem? (i := 24) rfl)
theorem w25 {Z a0} (hw : HW a0 Z) : ((Jvm.Cond.code ({ cls := "java/lang/StringUTF16", name := "coderFromArrayLen", desc := "([BI)B" } : Jvm.MethodName) jdk_52_method_15_code (2 : Nat) (Option.some Jvm.ClassFile.FieldType.byte)) : Jvm.Cond).before a0 Z = true := hw _ (List.mem_of_getElem? (i := 25) rfl)
theorem d2_48 : decode jdk_42_method_149_code 48 = .ok (.putfield 15, 3) := by decide +kernel
theorem pfB : parseFieldDescriptor "B" = some .byte := by decide
abbrev oString (f0 f1 : Value) : Desc := .inl ("java/lang/String", [("java/lang/String", "value", "[B", f0), ("java/lang/String", "coder", "B", f1)])
theorem w26 {Z a0} (hw : HW a0 Z) : ((Jvm.Cond.fieldLink "java/lang/String" (15 : Nat) "java/lang/String" "coder" "B") : Jvm.Cond).before a0 Z = true := hw _ (List.mem_of_getElem? (i := 26) rfl)
theorem d2_51 : decode jdk_42_method_149_code 51 = .ok (.aload_n 0, 1) := by decide +kernel
theorem d2_52 : decode jdk_42_method_149_code 52 = .ok (.aload 5, 2) := by decide +kernel
theorem d2_54 : decode jdk_42_method_149_code 54 = .ok (.putfield 9, 3) := by decide +kernel
theorem pf_B : parseFieldDescriptor "[B" = some (.array .byte) := by decide
theorem w28 {Z a0} (hw : HW a0 Z) : ((Jvm.Cond.fieldLink "java/lang/String" (9 : Nat) "java/lang/String" "value" "[B") : Jvm.Cond).before a0 Z = true := hw _ (List.mem_of_getElem? (i := 28) rfl)
theorem d2_57 : decode jdk_42_method_149_code 57 = .ok (.return_, 1) := by decide +kernel
theorem c2_init {Z a0} (hw : HW a0 Z) (hs : SF Z) {p1 p2 : Addr} {x1 : Int32} (hx1 : 0 ≤ x1.toInt ∧ x1.toInt ≤ 255) {x2 : Int32} (hx2 : 0 ≤ x2.toInt ∧ x2.toInt ≤ 255) {w_p2 : Bool} {ad_p2 : String} {F : List Ent} (mp2 : (p2, w_p2, ar ad_p2 .char [(vi x1), (vi x2)]) ∈ F) : Con Z EL (⟨"java/lang/String", "<init>", "([CIILjava/lang/Void;)V"⟩ : MethodName) jdk_42_method_149_code 6 (Option.none : Option Jvm.ClassFile.FieldType) (rmm 2 1 2 35) [(vr p1), (vr p2), (vi 0), (vi 2), .null] ((p1, true, oString .null (vi 0)) :: F) (fun v D' => (∃ a1 : Addr, v = none ∧ (a1, true, ar "[B" .byte [(vi x1.toInt8.toInt32), (vi x2.toInt8.toInt32)]) :: (p1, true, oString (vr a1) (vi 0)) :: F = D')) := by
  refine Con.of (ls := #[rv p1, rv p2, iv 0, iv 2, .val .null, uu]) (by decide +kernel) rfl ?_
  show W Z EL _ "java/lang/String" "<init>" _ _ _ _ _ _ _ _ _ _
  refine W.aloadN (pc := 0) d2_0 rfl rfl ?_
  refine W.initO (pc := 1) 0 d2_1 (w11 hw) (w12 hw) (w13 hw) rfl rfl (by decide) ?_
  refine W.iloadN (pc := 4) d2_4 rfl ?_
  refine W.ifY (pc := 5) 27 d2_5 (y_ne (by decide)) (by decide) ?_
  refine W.gets (pc := 27) d2_27 (w14 hw) Via.refl hs.1 ?_
  refine W.ifN (pc := 30) d2_30 (n_eq (by have := hs.2.1; have := q0; omega)) ?_
  refine W.aloadN (pc := 33) d2_33 rfl rfl ?_
  refine W.iloadN (pc := 34) d2_34 rfl ?_
  refine W.iloadN (pc := 35) d2_35 rfl ?_
  refine W.callS (pc := 36) (as := [(vr p2), (vi 0), (vi 2)]) 0 [] d2_36 (w15 hw) (w16 hw) (w17 hw) (w18 hw) (c3_compress hw hs (p1 := p2) (x1 := x1) (hx1 := hx1) (x2 := x2) (hx2 := hx2) (mp1 := (mS mp2))) (by decide) pd__CII__B rfl rfl rfl rfl (by decide) (fun v D' h => ?_)
  obtain ⟨a1, rfl, rfl⟩ := h
  show W _ _ _ _ _ _ _ _ _ _ _ _ 39 _ [(vr a1)]
  refine W.astore (pc := 39) (ls' := #[rv p1, rv p2, iv 0, iv 2, .val .null, rv a1]) d2_39 rfl rfl ?_
  refine W.aloadN (pc := 41) d2_41 rfl rfl ?_
  refine W.aload (pc := 42) 5 d2_42 rfl rfl ?_
  refine W.iloadN (pc := 44) d2_44 rfl ?_
  refine W.callS (pc := 45) (as := [(vr a1), (vi 2)]) 1 [(vr p1)] d2_45 (w23 hw) (w24 hw) (w17 hw) (w25 hw) (c5_coderFromArrayLen hw hs (p1 := a1) (x1 := x1.toInt8.toInt32) (hx1 := (by have := a_i2b x1; omega)) (x2 := x2.toInt8.toInt32) (hx2 := (by have := a_i2b x2; omega)) (mp1 := m0)) (by decide) pd__BI_B rfl rfl rfl rfl (by decide) (fun v D' h => ?_)
  obtain ⟨rfl, rfl⟩ := h
  show W _ _ _ _ _ _ _ _ _ _ _ _ 48 _ [(vi 0), (vr p1)]
  refine W.putf (pc := 48) (D' := (a1, true, ar "[B" .byte [(vi x1.toInt8.toInt32), (vi x2.toInt8.toInt32)]) :: (p1, true, oString .null (vi 0)) :: F) 1 1 d2_48 (w26 hw) Via.refl rfl rfl (Or.inr ⟨(w27 hw), rfl, rfl⟩) (w2 hw) pfB (nw_byte (by decide)) (ft_byte (by decide)) rfl ?_
  refine W.aloadN (pc := 51) d2_51 rfl rfl ?_
  refine W.aload (pc := 52) 5 d2_52 rfl rfl ?_
  refine W.putf (pc := 54) (D' := (a1, true, ar "[B" .byte [(vi x1.toInt8.toInt32), (vi x2.toInt8.toInt32)]) :: (p1, true, oString (vr a1) (vi 0)) :: F) 1 0 d2_54 (w28 hw) Via.refl rfl rfl (Or.inr ⟨(w29 hw), rfl, rfl⟩) (w2 hw) pf_B rfl rfl rfl ?_
  exact W.return_ (pc := 57) d2_57 rfl (by decide) ⟨a1, rfl, rfl⟩
theorem pd__CIILjava_lang_Void__V : parseMethodDescriptor "([CIILjava/lang/Void;)V" = some ⟨[(.array .char), .int, .int, (.object "java/lang/Void")], none⟩ := by decide +kernel
theorem w7 {Z a0} (hw : HW a0 Z) : ((Jvm.Cond.methodLink "java/lang/String" (27 : Nat) ({ cls := "java/lang/String", name := "<init>", desc := "([CIILjava/lang/Void;)V" } : Jvm.MethodName)) : Jvm.Cond).before a0 Z = true := hw _ (List.mem_of_getElem? (i := 7) rfl)
theorem w8 {Z a0} (hw : HW a0 Z) : ((Jvm.Cond.instanceMethod ({ cls := "java/lang/String", name := "<init>", desc := "([CIILjava/lang/Void;)V" } : Jvm.MethodName)) : Jvm.Cond).before a0 Z = true := hw _ (List.mem_of_getElem? (i := 8) rfl)
theorem w10 {Z a0} (hw : HW a0 Z) : ((Jvm.Cond.code ({ cls := "java/lang/String", name := "<init>", desc := "([CIILjava/lang/Void;)V" } : Jvm.MethodName) jdk_42_method_149_code (6 : Nat) (Option.none : Option Jvm.ClassFile.FieldType)) : Jvm.Cond).before a0 Z = true := hw _ (List.mem_of_getElem? (i := 10) rfl)
theorem d1_9 : decode jdk_42_method_3_code 9 = .ok (.return_, 1) := by decide +kernel
theorem c1_init {Z a0} (hw : HW a0 Z) (hs : SF Z) {p1 p2 : Addr} {x1 : Int32} (hx1 : 0 ≤ x1.toInt ∧ x1.toInt ≤ 255) {x2 : Int32} (hx2 : 0 ≤ x2.toInt ∧ x2.toInt ≤ 255) {w_p2 : Bool} {ad_p2 : String} {F : List Ent} (mp2 : (p2, w_p2, ar ad_p2 .char [(vi x1), (vi x2)]) ∈ F) : Con Z EL (⟨"java/lang/String", "<init>", "([C)V"⟩ : MethodName) jdk_42_method_3_code 2 (Option.none : Option Jvm.ClassFile.FieldType) (rmm 3 1 2 52) [(vr p1), (vr p2)] ((p1, true, oString .null (vi 0)) :: F) (fun v D' => (∃ a1 : Addr, v = none ∧ (a1, true, ar "[B" .byte [(vi x1.toInt8.toInt32), (vi x2.toInt8.toInt32)]) :: (p1, true, oString (vr a1) (vi 0)) :: F = D')) := by
  refine Con.of (ls := #[rv p1, rv p2]) (by decide +kernel) rfl ?_
  show W Z EL _ "java/lang/String" "<init>" _ _ _ _ _ _ _ _ _ _
  refine W.aloadN (pc := 0) d1_0 rfl rfl ?_
  refine W.aloadN (pc := 1) d1_1 rfl rfl ?_
  refine W.iconst (pc := 2) (0) d1_2 (by decide) ?_
  refine W.aloadN (pc := 3) d1_3 rfl rfl ?_
  refine W.alen (pc := 4) (2) d1_4 (mS mp2) rfl ?_
  refine W.aconstNull (pc := 5) d1_5 ?_
  refine W.callI (pc := 6) (as := [(vr p2), (vi 0), (vi 2), .null]) 0 [] d1_6 rfl (w7 hw) (w8 hw) (w3 hw) (w10 hw) (c2_init hw hs (p1 := p1) (p2 := p2) (x1 := x1) (hx1 := hx1) (x2 := x2) (hx2 := hx2) (mp2 := mp2)) (by decide) pd__CIILjava_lang_Void__V rfl rfl rfl rfl (by decide) (fun v D' h => ?_)
  obtain ⟨a1, rfl, rfl⟩ := h
  show W _ _ _ _ _ _ _ _ _ _ _ _ 9 _ []
  exact W.return_ (pc := 9) d1_9 rfl (by decide) ⟨a1, rfl, rfl⟩
theorem pd__C_V : parseMethodDescriptor "([C)V" = some ⟨[(.array .char)], none⟩ := by decide +kernel
theorem w4 {Z a0} (hw : HW a0 Z) : ((Jvm.Cond.methodLink "com/example/montaje/montaje/beans/BeanDefinitionGetScopePinLaw" (9 : Nat) ({ cls := "java/lang/String", name := "<init>", desc := "([C)V" } : Jvm.MethodName)) : Jvm.Cond).before a0 Z = true := hw _ (List.mem_of_getElem? (i := 4) rfl)
theorem w5 {Z a0} (hw : HW a0 Z) : ((Jvm.Cond.instanceMethod ({ cls := "java/lang/String", name := "<init>", desc := "([C)V" } : Jvm.MethodName)) : Jvm.Cond).before a0 Z = true := hw _ (List.mem_of_getElem? (i := 5) rfl)
theorem w6 {Z a0} (hw : HW a0 Z) : ((Jvm.Cond.code ({ cls := "java/lang/String", name := "<init>", desc := "([C)V" } : Jvm.MethodName) jdk_42_method_3_code (2 : Nat) (Option.none : Option Jvm.ClassFile.FieldType)) : Jvm.Cond).before a0 Z = true := hw _ (List.mem_of_getElem? (i := 6) rfl)
theorem q1 : (1 : Int32).toInt = 1 := by decide
theorem aushr_1 (x : Int32) : (XT.ushr x (1 : Int32)).toInt = (x.toInt % 4294967296) / 2 := a_ushr x 1 1 2 (by decide) (by decide) (by decide)
theorem am_1 (x : Int32) : (x &&& (1 : Int32)).toInt = x.toInt % 2 := a_and x 1 1 2 (by decide) (by decide) (by decide)
theorem c9_compress {Z a0} (hw : HW a0 Z) (hs : SF Z) {p1 p2 : Addr} {x1 : Int32} (hx1 : 0 ≤ x1.toInt ∧ x1.toInt ≤ 255) {ad_p2 : String} {w_p1 : Bool} {ad_p1 : String} {F : List Ent} (mp1 : (p1, w_p1, ar ad_p1 .char [(vi x1)]) ∈ F) : Con Z EL (⟨"java/lang/StringUTF16", "compress", "([CI[BII)I"⟩ : MethodName) jdk_52_method_21_code 7 (Option.some Jvm.ClassFile.FieldType.int) (rmm 0 0 0 0) [(vr p1), (vi 0), (vr p2), (vi 0), (vi 1)] ((p2, true, ar ad_p2 .byte [(vi 0)]) :: F) (fun v D' => (v = some (vi 1) ∧ (p2, true, ar ad_p2 .byte [(vi x1.toInt8.toInt32)]) :: F = D')) := by
  refine Con.of (ls := #[rv p1, iv 0, rv p2, iv 0, iv 1, uu, uu]) (by decide +kernel) rfl ?_
  show W Z EL _ "java/lang/StringUTF16" "compress" _ _ _ _ _ _ _ _ _ _
  refine W.iconst (pc := 0) (0) d5_0 (by decide) ?_
  refine W.istore (pc := 1) (ls' := #[rv p1, iv 0, rv p2, iv 0, iv 1, iv 0, uu]) d5_1 rfl ?_
  refine W.iload (pc := 3) d5_3 rfl ?_
  refine W.iload (pc := 5) d5_5 rfl ?_
  refine W.icmpN (pc := 7) d5_7 (n_ge (by decide)) ?_
  refine W.aloadN (pc := 10) d5_10 rfl rfl ?_
  refine W.iloadN (pc := 11) d5_11 rfl ?_
  refine W.caload (pc := 12) 0 d5_12 (mS mp1) ix0 rfl ?_
  refine W.istore (pc := 13) (ls' := #[rv p1, iv 0, rv p2, iv 0, iv 1, iv 0, iv x1]) d5_13 rfl ?_
  refine W.iload (pc := 15) d5_15 rfl ?_
  refine W.sipush (pc := 17) (255) d5_17 (by decide) ?_
  refine W.icmpY (pc := 20) 26 d5_20 (y_le (by have := q255; omega)) (by decide) ?_
  refine W.aloadN (pc := 26) d5_26 rfl rfl ?_
  refine W.iloadN (pc := 27) d5_27 rfl ?_
  refine W.iload (pc := 28) d5_28 rfl ?_
  refine W.i2b (pc := 30) d5_30 ?_
  refine W.bastore (pc := 31) (D' := (p2, true, ar ad_p2 .byte [(vi x1.toInt8.toInt32)]) :: F) 0 0 d5_31 rfl ix0 (Nat.le_of_ble_eq_true rfl) (z_narB (by have := a_i2b x1; omega)) rfl ?_
  refine W.iincK (pc := 32) (ls' := #[rv p1, iv 1, rv p2, iv 0, iv 1, iv 0, iv x1]) (1) (1 : Int32) d5_32 (by decide) rfl (by decide) rfl ?_
  refine W.iincK (pc := 35) (ls' := #[rv p1, iv 1, rv p2, iv 1, iv 1, iv 0, iv x1]) (1) (1 : Int32) d5_35 (by decide) rfl (by decide) rfl ?_
  refine W.iincK (pc := 38) (ls' := #[rv p1, iv 1, rv p2, iv 1, iv 1, iv 1, iv x1]) (1) (1 : Int32) d5_38 (by decide) rfl (by decide) rfl ?_
  refine W.goto (pc := 41) 3 d5_41 (by decide) ?_
  refine W.iload (pc := 3) d5_3 rfl ?_
  refine W.iload (pc := 5) d5_5 rfl ?_
  refine W.icmpY (pc := 7) 44 d5_7 (y_ge (by decide)) (by decide) ?_
  refine W.iload (pc := 44) d5_44 rfl ?_
  exact W.ireturn (pc := 46) d5_46 rfl (Or.inl rfl) rfl (by decide) ⟨rfl, rfl⟩
theorem c8_compress {Z a0} (hw : HW a0 Z) (hs : SF Z) {p1 : Addr} {x1 : Int32} (hx1 : 0 ≤ x1.toInt ∧ x1.toInt ≤ 255) {w_p1 : Bool} {ad_p1 : String} {F : List Ent} (mp1 : (p1, w_p1, ar ad_p1 .char [(vi x1)]) ∈ F) : Con Z EL (⟨"java/lang/StringUTF16", "compress", "([CII)[B"⟩ : MethodName) jdk_52_method_16_code 6 (Option.some (Jvm.ClassFile.FieldType.array Jvm.ClassFile.FieldType.byte)) (rmm 1 1 1 18) [(vr p1), (vi 0), (vi 1)] (F) (fun v D' => (∃ a1 : Addr, v = some (vr a1) ∧ (a1, true, ar "[B" .byte [(vi x1.toInt8.toInt32)]) :: F = D')) := by
  refine Con.of (ls := #[rv p1, iv 0, iv 1, uu, uu, uu]) (by decide +kernel) rfl ?_
  show W Z EL _ "java/lang/StringUTF16" "compress" _ _ _ _ _ _ _ _ _ _
  refine W.iloadN (pc := 0) d4_0 rfl ?_
  refine W.newarr (pc := 1) 1 (ad := "[B") (ty := .byte) d4_1 rfl (w19 hw) ix1 rfl (by decide) (by decide) (fun a1 => ?_)
  show W _ _ _ _ _ _ _ _ _ _ _ _ 3 _ [(vr a1)]
  refine W.astoreN (pc := 3) (ls' := #[rv p1, iv 0, iv 1, rv a1, uu, uu]) d4_3 rfl rfl ?_
  refine W.aloadN (pc := 4) d4_4 rfl rfl ?_
  refine W.iloadN (pc := 5) d4_5 rfl ?_
  refine W.aloadN (pc := 6) d4_6 rfl rfl ?_
  refine W.iconst (pc := 7) (0) d4_7 (by decide) ?_
  refine W.iloadN (pc := 8) d4_8 rfl ?_
  refine W.callS (pc := 9) (as := [(vr p1), (vi 0), (vr a1), (vi 0), (vi 1)]) 0 [] d4_9 (w20 hw) (w21 hw) (w17 hw) (w22 hw) (c9_compress hw hs (p1 := p1) (p2 := a1) (x1 := x1) (hx1 := hx1) (mp1 := mp1)) (by decide) pd__CI_BII_I rfl rfl rfl rfl (by decide) (fun v D' h => ?_)
  obtain ⟨rfl, rfl⟩ := h
  show W _ _ _ _ _ _ _ _ _ _ _ _ 12 _ [(vi 1)]
  refine W.istore (pc := 12) (ls' := #[rv p1, iv 0, iv 1, rv a1, iv 1, uu]) d4_12 rfl ?_
  refine W.iload (pc := 14) d4_14 rfl ?_
  refine W.iloadN (pc := 16) d4_16 rfl ?_
  refine W.icmpY (pc := 17) 57 d4_17 (y_eq (by decide)) (by decide) ?_
  refine W.aloadN (pc := 57) d4_57 rfl rfl ?_
  exact W.areturn (pc := 58) d4_58 rfl rfl rfl (by decide) ⟨a1, rfl, rfl⟩
theorem c10_coderFromArrayLen {Z a0} (hw : HW a0 Z) (hs : SF Z) {p1 : Addr} {x1 : Int32} (hx1 : -128 ≤ x1.toInt ∧ x1.toInt ≤ 127) {w_p1 : Bool} {ad_p1 : String} {F : List Ent} (mp1 : (p1, w_p1, ar ad_p1 .byte [(vi x1)]) ∈ F) : Con Z EL (⟨"java/lang/StringUTF16", "coderFromArrayLen", "([BI)B"⟩ : MethodName) jdk_52_method_15_code 2 (Option.some Jvm.ClassFile.FieldType.byte) (rmm 0 0 0 0) [(vr p1), (vi 1)] (F) (fun v D' => (v = some (vi 0) ∧ F = D')) := by
  refine Con.of (ls := #[rv p1, iv 1]) (by decide +kernel) rfl ?_
  show W Z EL _ "java/lang/StringUTF16" "coderFromArrayLen" _ _ _ _ _ _ _ _ _ _
  refine W.iloadN (pc := 0) d6_0 rfl ?_
  refine W.aloadN (pc := 1) d6_1 rfl rfl ?_
  refine W.alen (pc := 2) (1) d6_2 mp1 rfl ?_
  refine W.isubK (pc := 3) (0 : Int32) d6_3 (by decide) ?_
  refine W.bipush (pc := 4) (31) d6_4 (by decide) ?_
  refine W.iushrK (pc := 6) (0 : Int32) d6_6 (by decide) ?_
  refine W.i2bK (pc := 7) (0 : Int32) d6_7 (by decide) ?_
  exact W.ireturn (pc := 8) d6_8 rfl (Or.inr (Or.inr (Or.inl rfl))) (nw_byte (by decide)) (by decide) ⟨rfl, rfl⟩
theorem c7_init {Z a0} (hw : HW a0 Z) (hs : SF Z) {p1 p2 : Addr} {x1 : Int32} (hx1 : 0 ≤ x1.toInt ∧ x1.toInt ≤ 255) {w_p2 : Bool} {ad_p2 : String} {F : List Ent} (mp2 : (p2, w_p2, ar ad_p2 .char [(vi x1)]) ∈ F) : Con Z EL (⟨"java/lang/String", "<init>", "([CIILjava/lang/Void;)V"⟩ : MethodName) jdk_42_method_149_code 6 (Option.none : Option Jvm.ClassFile.FieldType) (rmm 2 1 1 35) [(vr p1), (vr p2), (vi 0), (vi 1), .null] ((p1, true, oString .null (vi 0)) :: F) (fun v D' => (∃ a1 : Addr, v = none ∧ (a1, true, ar "[B" .byte [(vi x1.toInt8.toInt32)]) :: (p1, true, oString (vr a1) (vi 0)) :: F = D')) := by
  refine Con.of (ls := #[rv p1, rv p2, iv 0, iv 1, .val .null, uu]) (by decide +kernel) rfl ?_
  show W Z EL _ "java/lang/String" "<init>" _ _ _ _ _ _ _ _ _ _
  refine W.aloadN (pc := 0) d2_0 rfl rfl ?_
  refine W.initO (pc := 1) 0 d2_1 (w11 hw) (w12 hw) (w13 hw) rfl rfl (by decide) ?_
  refine W.iloadN (pc := 4) d2_4 rfl ?_
  refine W.ifY (pc := 5) 27 d2_5 (y_ne (by decide)) (by decide) ?_
  refine W.gets (pc := 27) d2_27 (w14 hw) Via.refl hs.1 ?_
  refine W.ifN (pc := 30) d2_30 (n_eq (by have := hs.2.1; have := q0; omega)) ?_
  refine W.aloadN (pc := 33) d2_33 rfl rfl ?_
  refine W.iloadN (pc := 34) d2_34 rfl ?_
  refine W.iloadN (pc := 35) d2_35 rfl ?_
  refine W.callS (pc := 36) (as := [(vr p2), (vi 0), (vi 1)]) 0 [] d2_36 (w15 hw) (w16 hw) (w17 hw) (w18 hw) (c8_compress hw hs (p1 := p2) (x1 := x1) (hx1 := hx1) (mp1 := (mS mp2))) (by decide) pd__CII__B rfl rfl rfl rfl (by decide) (fun v D' h => ?_)
  obtain ⟨a1, rfl, rfl⟩ := h
  show W _ _ _ _ _ _ _ _ _ _ _ _ 39 _ [(vr a1)]
  refine W.astore (pc := 39) (ls' := #[rv p1, rv p2, iv 0, iv 1, .val .null, rv a1]) d2_39 rfl rfl ?_
  refine W.aloadN (pc := 41) d2_41 rfl rfl ?_
  refine W.aload (pc := 42) 5 d2_42 rfl rfl ?_
  refine W.iloadN (pc := 44) d2_44 rfl ?_
  refine W.callS (pc := 45) (as := [(vr a1), (vi 1)]) 1 [(vr p1)] d2_45 (w23 hw) (w24 hw) (w17 hw) (w25 hw) (c10_coderFromArrayLen hw hs (p1 := a1) (x1 := x1.toInt8.toInt32) (hx1 := (by have := a_i2b x1; omega)) (mp1 := m0)) (by decide) pd__BI_B rfl rfl rfl rfl (by decide) (fun v D' h => ?_)
  obtain ⟨rfl, rfl⟩ := h
  show W _ _ _ _ _ _ _ _ _ _ _ _ 48 _ [(vi 0), (vr p1)]
  refine W.putf (pc := 48) (D' := (a1, true, ar "[B" .byte [(vi x1.toInt8.toInt32)]) :: (p1, true, oString .null (vi 0)) :: F) 1 1 d2_48 (w26 hw) Via.refl rfl rfl (Or.inr ⟨(w27 hw), rfl, rfl⟩) (w2 hw) pfB (nw_byte (by decide)) (ft_byte (by decide)) rfl ?_
  refine W.aloadN (pc := 51) d2_51 rfl rfl ?_
  refine W.aload (pc := 52) 5 d2_52 rfl rfl ?_
  refine W.putf (pc := 54) (D' := (a1, true, ar "[B" .byte [(vi x1.toInt8.toInt32)]) :: (p1, true, oString (vr a1) (vi 0)) :: F) 1 0 d2_54 (w28 hw) Via.refl rfl rfl (Or.inr ⟨(w29 hw), rfl, rfl⟩) (w2 hw) pf_B rfl rfl rfl ?_
  exact W.return_ (pc := 57) d2_57 rfl (by decide) ⟨a1, rfl, rfl⟩
theorem c6_init {Z a0} (hw : HW a0 Z) (hs : SF Z) {p1 p2 : Addr} {x1 : Int32} (hx1 : 0 ≤ x1.toInt ∧ x1.toInt ≤ 255) {w_p2 : Bool} {ad_p2 : String} {F : List Ent} (mp2 : (p2, w_p2, ar ad_p2 .char [(vi x1)]) ∈ F) : Con Z EL (⟨"java/lang/String", "<init>", "([C)V"⟩ : MethodName) jdk_42_method_3_code 2 (Option.none : Option Jvm.ClassFile.FieldType) (rmm 3 1 1 52) [(vr p1), (vr p2)] ((p1, true, oString .null (vi 0)) :: F) (fun v D' => (∃ a1 : Addr, v = none ∧ (a1, true, ar "[B" .byte [(vi x1.toInt8.toInt32)]) :: (p1, true, oString (vr a1) (vi 0)) :: F = D')) := by
  refine Con.of (ls := #[rv p1, rv p2]) (by decide +kernel) rfl ?_
  show W Z EL _ "java/lang/String" "<init>" _ _ _ _ _ _ _ _ _ _
  refine W.aloadN (pc := 0) d1_0 rfl rfl ?_
  refine W.aloadN (pc := 1) d1_1 rfl rfl ?_
  refine W.iconst (pc := 2) (0) d1_2 (by decide) ?_
  refine W.aloadN (pc := 3) d1_3 rfl rfl ?_
  refine W.alen (pc := 4) (1) d1_4 (mS mp2) rfl ?_
  refine W.aconstNull (pc := 5) d1_5 ?_
  refine W.callI (pc := 6) (as := [(vr p2), (vi 0), (vi 1), .null]) 0 [] d1_6 rfl (w7 hw) (w8 hw) (w3 hw) (w10 hw) (c7_init hw hs (p1 := p1) (p2 := p2) (x1 := x1) (hx1 := hx1) (mp2 := mp2)) (by decide) pd__CIILjava_lang_Void__V rfl rfl rfl rfl (by decide) (fun v D' h => ?_)
  obtain ⟨a1, rfl, rfl⟩ := h
  show W _ _ _ _ _ _ _ _ _ _ _ _ 9 _ []
  exact W.return_ (pc := 9) d1_9 rfl (by decide) ⟨a1, rfl, rfl⟩
theorem w44 {Z a0} (hw : HW a0 Z) : ((Jvm.Cond.lays "com/example/montaje/montaje/beans/BeanDefinition" "com/example/montaje/montaje/beans/BeanDefinition" "dependsOn" "Ljava/util/List;") : Jvm.Cond).before a0 Z = true := hw _ (List.mem_of_getElem? (i := 44) rfl)
theorem w70 {Z a0} (hw : HW a0 Z) : ((Jvm.Cond.laysFinal "com/example/montaje/montaje/beans/BeanDefinition" "com/example/montaje/montaje/beans/BeanDefinition" "constructorArguments" "Ljava/util/List;") : Jvm.Cond).before a0 Z = true := hw _ (List.mem_of_getElem? (i := 70) rfl)
theorem w98 {Z a0} (hw : HW a0 Z) : ((Jvm.Cond.laysFinal "com/example/montaje/montaje/beans/BeanDefinition" "com/example/montaje/montaje/beans/BeanDefinition" "propertyValues" "Ljava/util/Map;") : Jvm.Cond).before a0 Z = true := hw _ (List.mem_of_getElem? (i := 98) rfl)
theorem w100 {Z a0} (hw : HW a0 Z) : ((Jvm.Cond.laysFinal "com/example/montaje/montaje/beans/BeanDefinition" "com/example/montaje/montaje/beans/BeanDefinition" "qualifiers" "Ljava/util/Map;") : Jvm.Cond).before a0 Z = true := hw _ (List.mem_of_getElem? (i := 100) rfl)
theorem w102 {Z a0} (hw : HW a0 Z) : ((Jvm.Cond.laysFinal "com/example/montaje/montaje/beans/BeanDefinition" "com/example/montaje/montaje/beans/BeanDefinition" "beanClassName" "Ljava/lang/String;") : Jvm.Cond).before a0 Z = true := hw _ (List.mem_of_getElem? (i := 102) rfl)
theorem w112 {Z a0} (hw : HW a0 Z) : ((Jvm.Cond.laysFinal "com/example/montaje/montaje/beans/BeanDefinition" "com/example/montaje/montaje/beans/BeanDefinition" "source" "Ljava/lang/String;") : Jvm.Cond).before a0 Z = true := hw _ (List.mem_of_getElem? (i := 112) rfl)
theorem w121 {Z a0} (hw : HW a0 Z) : ((Jvm.Cond.lays "com/example/montaje/montaje/beans/BeanDefinition" "com/example/montaje/montaje/beans/BeanDefinition" "scope" "Ljava/lang/String;") : Jvm.Cond).before a0 Z = true := hw _ (List.mem_of_getElem? (i := 121) rfl)
theorem laBeanDefinition {Z a0} (hw : HW a0 Z) : LaidAll Z a0 "com/example/montaje/montaje/beans/BeanDefinition" [("com/example/montaje/montaje/beans/BeanDefinition", "dependsOn", "Ljava/util/List;", .null), ("com/example/montaje/montaje/beans/BeanDefinition", "constructorArguments", "Ljava/util/List;", .null), ("com/example/montaje/montaje/beans/BeanDefinition", "propertyValues", "Ljava/util/Map;", .null), ("com/example/montaje/montaje/beans/BeanDefinition", "qualifiers", "Ljava/util/Map;", .null), ("com/example/montaje/montaje/beans/BeanDefinition", "beanClassName", "Ljava/lang/String;", .null), ("com/example/montaje/montaje/beans/BeanDefinition", "source", "Ljava/lang/String;", .null), ("com/example/montaje/montaje/beans/BeanDefinition", "scope", "Ljava/lang/String;", .null)] := ⟨⟨Or.inl (w44 hw), (.object "java/util/List"), by decide, rfl⟩, ⟨⟨Or.inr (w70 hw), (.object "java/util/List"), by decide, rfl⟩, ⟨⟨Or.inr (w98 hw), (.object "java/util/Map"), by decide, rfl⟩, ⟨⟨Or.inr (w100 hw), (.object "java/util/Map"), by decide, rfl⟩, ⟨⟨Or.inr (w102 hw), (.object "java/lang/String"), by decide, rfl⟩, ⟨⟨Or.inr (w112 hw), (.object "java/lang/String"), by decide, rfl⟩, ⟨⟨Or.inl (w121 hw), (.object "java/lang/String"), by decide, rfl⟩, trivial⟩⟩⟩⟩⟩⟩⟩
theorem w30 {Z a0} (hw : HW a0 Z) : ((Jvm.Cond.classLink "com/example/montaje/montaje/beans/BeanDefinitionGetScopePinLaw" (12 : Nat) "com/example/montaje/montaje/beans/BeanDefinition") : Jvm.Cond).before a0 Z = true := hw _ (List.mem_of_getElem? (i := 30) rfl)
theorem w31 {Z a0} (hw : HW a0 Z) : ((Jvm.Cond.instantiable "com/example/montaje/montaje/beans/BeanDefinition" (17 : Nat)) : Jvm.Cond).before a0 Z = true := hw _ (List.mem_of_getElem? (i := 31) rfl)
theorem w32 {Z a0} (hw : HW a0 Z) : ((Jvm.Cond.initialized "com/example/montaje/montaje/beans/BeanDefinition") : Jvm.Cond).before a0 Z = true := hw _ (List.mem_of_getElem? (i := 32) rfl)
theorem d7_0 : decode prog_4_method_1_code 0 = .ok (.aload_n 0, 1) := by decide +kernel
theorem d7_1 : decode prog_4_method_1_code 1 = .ok (.invokespecial 1, 3) := by decide +kernel
theorem w36 {Z a0} (hw : HW a0 Z) : ((Jvm.Cond.methodLink "com/example/montaje/montaje/beans/BeanDefinition" (1 : Nat) ({ cls := "java/lang/Object", name := "<init>", desc := "()V" } : Jvm.MethodName)) : Jvm.Cond).before a0 Z = true := hw _ (List.mem_of_getElem? (i := 36) rfl)
theorem d7_4 : decode prog_4_method_1_code 4 = .ok (.aload_n 0, 1) := by decide +kernel
theorem d7_5 : decode prog_4_method_1_code 5 = .ok (.invokestatic 7, 3) := by decide +kernel
theorem d8_0 : decode jdk_40_method_36_code 0 = .ok (.getstatic 90, 3) := by decide +kernel
theorem w41 {Z a0} (hw : HW a0 Z) : ((Jvm.Cond.fieldLink "java/util/List" (90 : Nat) "java/util/ImmutableCollections" "EMPTY_LIST" "Ljava/util/ImmutableCollections$ListN;") : Jvm.Cond).before a0 Z = true := hw _ (List.mem_of_getElem? (i := 41) rfl)
theorem d8_3 : decode jdk_40_method_36_code 3 = .ok (.areturn, 1) := by decide +kernel
theorem c12_of {Z a0} (hw : HW a0 Z) (hs : SF Z) {F : List Ent} : Con Z EL (⟨"java/util/List", "of", "()Ljava/util/List;"⟩ : MethodName) jdk_40_method_36_code 0 (Option.some (Jvm.ClassFile.FieldType.object "java/util/List")) (rmm 0 0 0 0) [] (F) (fun v D' => (v = some (vr (g1 Z)) ∧ F = D')) := by
  refine Con.of (ls := #[]) (by decide +kernel) rfl ?_
  show W Z EL _ "java/util/List" "of" _ _ _ _ _ _ _ _ _ _
  refine W.gets (pc := 0) d8_0 (w41 hw) Via.refl hs.2.2.1 ?_
  exact W.areturn (pc := 3) d8_3 rfl rfl rfl (by decide) ⟨rfl, rfl⟩
theorem pd__Ljava_util_List_ : parseMethodDescriptor "()Ljava/util/List;" = some ⟨[], some (.object "java/util/List")⟩ := by decide +kernel
theorem w37 {Z a0} (hw : HW a0 Z) : ((Jvm.Cond.methodLink "com/example/montaje/montaje/beans/BeanDefinition" (7 : Nat) ({ cls := "java/util/List", name := "of", desc := "()Ljava/util/List;" } : Jvm.MethodName)) : Jvm.Cond).before a0 Z = true := hw _ (List.mem_of_getElem? (i := 37) rfl)
theorem w38 {Z a0} (hw : HW a0 Z) : ((Jvm.Cond.static ({ cls := "java/util/List", name := "of", desc := "()Ljava/util/List;" } : Jvm.MethodName)) : Jvm.Cond).before a0 Z = true := hw _ (List.mem_of_getElem? (i := 38) rfl)
theorem w39 {Z a0} (hw : HW a0 Z) : ((Jvm.Cond.initialized "java/util/List") : Jvm.Cond).before a0 Z = true := hw _ (List.mem_of_getElem? (i := 39) rfl)
theorem w40 {Z a0} (hw : HW a0 Z) : ((Jvm.Cond.code ({ cls := "java/util/List", name := "of", desc := "()Ljava/util/List;" } : Jvm.MethodName) jdk_40_method_36_code (0 : Nat) (Option.some (Jvm.ClassFile.FieldType.object "java/util/List"))) : Jvm.Cond).before a0 Z = true := hw _ (List.mem_of_getElem? (i := 40) rfl)
theorem d7_8 : decode prog_4_method_1_code 8 = .ok (.putfield 13, 3) := by decide +kernel
theorem pfLjava_util_List_ : parseFieldDescriptor "Ljava/util/List;" = some (.object "java/util/List") := by decide
abbrev oBeanDefinition (f0 f1 f2 f3 f4 f5 f6 : Value) : Desc := .inl ("com/example/montaje/montaje/beans/BeanDefinition", [("com/example/montaje/montaje/beans/BeanDefinition", "dependsOn", "Ljava/util/List;", f0), ("com/example/montaje/montaje/beans/BeanDefinition", "constructorArguments", "Ljava/util/List;", f1), ("com/example/montaje/montaje/beans/BeanDefinition", "propertyValues", "Ljava/util/Map;", f2), ("com/example/montaje/montaje/beans/BeanDefinition", "qualifiers", "Ljava/util/Map;", f3), ("com/example/montaje/montaje/beans/BeanDefinition", "beanClassName", "Ljava/lang/String;", f4), ("com/example/montaje/montaje/beans/BeanDefinition", "source", "Ljava/lang/String;", f5), ("com/example/montaje/montaje/beans/BeanDefinition", "scope", "Ljava/lang/String;", f6)])
theorem w43 {Z a0} (hw : HW a0 Z) : ((Jvm.Cond.fieldLink "com/example/montaje/montaje/beans/BeanDefinition" (13 : Nat) "com/example/montaje/montaje/beans/BeanDefinition" "dependsOn" "Ljava/util/List;") : Jvm.Cond).before a0 Z = true := hw _ (List.mem_of_getElem? (i := 43) rfl)
theorem d7_11 : decode prog_4_method_1_code 11 = .ok (.aload_n 0, 1) := by decide +kernel
theorem d7_12 : decode prog_4_method_1_code 12 = .ok (.new 19, 3) := by decide +kernel
theorem w65 {Z a0} (hw : HW a0 Z) : ((Jvm.Cond.lays "java/util/ArrayList" "java/util/AbstractList" "modCount" "I") : Jvm.Cond).before a0 Z = true := hw _ (List.mem_of_getElem? (i := 65) rfl)
theorem w68 {Z a0} (hw : HW a0 Z) : ((Jvm.Cond.lays "java/util/ArrayList" "java/util/ArrayList" "elementData" "[Ljava/lang/Object;") : Jvm.Cond).before a0 Z = true := hw _ (List.mem_of_getElem? (i := 68) rfl)
theorem laArrayList {Z a0} (hw : HW a0 Z) : LaidAll Z a0 "java/util/ArrayList" [("java/util/AbstractList", "modCount", "I", (vi 0)), ("java/util/ArrayList", "elementData", "[Ljava/lang/Object;", .null)] := ⟨⟨Or.inl (w65 hw), .int, by decide, rfl⟩, ⟨⟨Or.inl (w68 hw), (.array (.object "java/lang/Object")), by decide, rfl⟩, trivial⟩⟩
theorem w45 {Z a0} (hw : HW a0 Z) : ((Jvm.Cond.classLink "com/example/montaje/montaje/beans/BeanDefinition" (19 : Nat) "java/util/ArrayList") : Jvm.Cond).before a0 Z = true := hw _ (List.mem_of_getElem? (i := 45) rfl)
theorem w46 {Z a0} (hw : HW a0 Z) : ((Jvm.Cond.instantiable "java/util/ArrayList" (3 : Nat)) : Jvm.Cond).before a0 Z = true := hw _ (List.mem_of_getElem? (i := 46) rfl)
theorem w47 {Z a0} (hw : HW a0 Z) : ((Jvm.Cond.initialized "java/util/ArrayList") : Jvm.Cond).before a0 Z = true := hw _ (List.mem_of_getElem? (i := 47) rfl)
theorem d7_15 : decode prog_4_method_1_code 15 = .ok (.dup, 1) := by decide +kernel
theorem d7_16 : decode prog_4_method_1_code 16 = .ok (.invokespecial 21, 3) := by decide +kernel
theorem d9_0 : decode jdk_38_method_2_code 0 = .ok (.aload_n 0, 1) := by decide +kernel
theorem d9_1 : decode jdk_38_method_2_code 1 = .ok (.invokespecial 1, 3) := by decide +kernel
theorem d10_0 : decode jdk_39_method_1_code 0 = .ok (.aload_n 0, 1) := by decide +kernel
theorem d10_1 : decode jdk_39_method_1_code 1 = .ok (.invokespecial 1, 3) := by decide +kernel
theorem d11_0 : decode jdk_22_method_1_code 0 = .ok (.aload_n 0, 1) := by decide +kernel
theorem d11_1 : decode jdk_22_method_1_code 1 = .ok (.invokespecial 1, 3) := by decide +kernel
theorem w63 {Z a0} (hw : HW a0 Z) : ((Jvm.Cond.methodLink "java/util/AbstractCollection" (1 : Nat) ({ cls := "java/lang/Object", name := "<init>", desc := "()V" } : Jvm.MethodName)) : Jvm.Cond).before a0 Z = true := hw _ (List.mem_of_getElem? (i := 63) rfl)
theorem d11_4 : decode jdk_22_method_1_code 4 = .ok (.return_, 1) := by decide +kernel
abbrev oArrayList (f0 f1 : Value) : Desc := .inl ("java/util/ArrayList", [("java/util/AbstractList", "modCount", "I", f0), ("java/util/ArrayList", "elementData", "[Ljava/lang/Object;", f1)])
theorem c15_init {Z a0} (hw : HW a0 Z) (hs : SF Z) {p1 : Addr} {F : List Ent} : Con Z EL (⟨"java/util/AbstractCollection", "<init>", "()V"⟩ : MethodName) jdk_22_method_1_code 1 (Option.none : Option Jvm.ClassFile.FieldType) (rmm 1 0 0 12) [(vr p1)] (F) (fun v D' => (v = none ∧ F = D')) := by
  refine Con.of (ls := #[rv p1]) (by decide +kernel) rfl ?_
  show W Z EL _ "java/util/AbstractCollection" "<init>" _ _ _ _ _ _ _ _ _ _
  refine W.aloadN (pc := 0) d11_0 rfl rfl ?_
  refine W.initO (pc := 1) 0 d11_1 (w63 hw) (w12 hw) (w13 hw) rfl rfl (by decide) ?_
  exact W.return_ (pc := 4) d11_4 rfl (by decide) ⟨rfl, rfl⟩
theorem pd__V : parseMethodDescriptor "()V" = some ⟨[], none⟩ := by decide +kernel
theorem w57 {Z a0} (hw : HW a0 Z) : ((Jvm.Cond.methodLink "java/util/AbstractList" (1 : Nat) ({ cls := "java/util/AbstractCollection", name := "<init>", desc := "()V" } : Jvm.MethodName)) : Jvm.Cond).before a0 Z = true := hw _ (List.mem_of_getElem? (i := 57) rfl)
theorem w58 {Z a0} (hw : HW a0 Z) : ((Jvm.Cond.instanceMethod ({ cls := "java/util/AbstractCollection", name := "<init>", desc := "()V" } : Jvm.MethodName)) : Jvm.Cond).before a0 Z = true := hw _ (List.mem_of_getElem? (i := 58) rfl)
theorem w61 {Z a0} (hw : HW a0 Z) : ((Jvm.Cond.initialized "java/util/AbstractCollection") : Jvm.Cond).before a0 Z = true := hw _ (List.mem_of_getElem? (i := 61) rfl)
theorem w62 {Z a0} (hw : HW a0 Z) : ((Jvm.Cond.code ({ cls := "java/util/AbstractCollection", name := "<init>", desc := "()V" } : Jvm.MethodName) jdk_22_method_1_code (1 : Nat) (Option.none : Option Jvm.ClassFile.FieldType)) : Jvm.Cond).before a0 Z = true := hw _ (List.mem_of_getElem? (i := 62) rfl)
theorem d10_4 : decode jdk_39_method_1_code 4 = .ok (.aload_n 0, 1) := by decide +kernel
theorem d10_5 : decode jdk_39_method_1_code 5 = .ok (.iconst 0, 1) := by decide +kernel
theorem d10_6 : decode jdk_39_method_1_code 6 = .ok (.putfield 7, 3) := by decide +kernel
theorem pfI : parseFieldDescriptor "I" = some .int := by decide
theorem w64 {Z a0} (hw : HW a0 Z) : ((Jvm.Cond.fieldLink "java/util/AbstractList" (7 : Nat) "java/util/AbstractList" "modCount" "I") : Jvm.Cond).before a0 Z = true := hw _ (List.mem_of_getElem? (i := 64) rfl)
theorem d10_9 : decode jdk_39_method_1_code 9 = .ok (.return_, 1) := by decide +kernel
theorem c14_init {Z a0} (hw : HW a0 Z) (hs : SF Z) {p1 : Addr} {F : List Ent} : Con Z EL (⟨"java/util/AbstractList", "<init>", "()V"⟩ : MethodName) jdk_39_method_1_code 1 (Option.none : Option Jvm.ClassFile.FieldType) (rmm 2 0 0 24) [(vr p1)] ((p1, true, oArrayList (vi 0) .null) :: F) (fun v D' => (v = none ∧ (p1, true, oArrayList (vi 0) .null) :: F = D')) := by
  refine Con.of (ls := #[rv p1]) (by decide +kernel) rfl ?_
  show W Z EL _ "java/util/AbstractList" "<init>" _ _ _ _ _ _ _ _ _ _
  refine W.aloadN (pc := 0) d10_0 rfl rfl ?_
  refine W.callI (pc := 1) (as := []) 0 [] d10_1 rfl (w57 hw) (w58 hw) (w61 hw) (w62 hw) (c15_init hw hs (p1 := p1)) (by decide) pd__V rfl rfl rfl rfl (by decide) (fun v D' h => ?_)
  obtain ⟨rfl, rfl⟩ := h
  show W _ _ _ _ _ _ _ _ _ _ _ _ 4 _ []
  refine W.aloadN (pc := 4) d10_4 rfl rfl ?_
  refine W.iconst (pc := 5) (0) d10_5 (by decide) ?_
  refine W.putf (pc := 6) (D' := (p1, true, oArrayList (vi 0) .null) :: F) 0 0 d10_6 (w64 hw) Via.refl rfl rfl (Or.inl (w65 hw)) (w46 hw) pfI rfl rfl rfl ?_
  exact W.return_ (pc := 9) d10_9 rfl (by decide) ⟨rfl, rfl⟩
theorem w51 {Z a0} (hw : HW a0 Z) : ((Jvm.Cond.methodLink "java/util/ArrayList" (1 : Nat) ({ cls := "java/util/AbstractList", name := "<init>", desc := "()V" } : Jvm.MethodName)) : Jvm.Cond).before a0 Z = true := hw _ (List.mem_of_getElem? (i := 51) rfl)
theorem w52 {Z a0} (hw : HW a0 Z) : ((Jvm.Cond.instanceMethod ({ cls := "java/util/AbstractList", name := "<init>", desc := "()V" } : Jvm.MethodName)) : Jvm.Cond).before a0 Z = true := hw _ (List.mem_of_getElem? (i := 52) rfl)
theorem w55 {Z a0} (hw : HW a0 Z) : ((Jvm.Cond.initialized "java/util/AbstractList") : Jvm.Cond).before a0 Z = true := hw _ (List.mem_of_getElem? (i := 55) rfl)
theorem w56 {Z a0} (hw : HW a0 Z) : ((Jvm.Cond.code ({ cls := "java/util/AbstractList", name := "<init>", desc := "()V" } : Jvm.MethodName) jdk_39_method_1_code (1 : Nat) (Option.none : Option Jvm.ClassFile.FieldType)) : Jvm.Cond).before a0 Z = true := hw _ (List.mem_of_getElem? (i := 56) rfl)
theorem d9_4 : decode jdk_38_method_2_code 4 = .ok (.aload_n 0, 1) := by decide +kernel
theorem d9_5 : decode jdk_38_method_2_code 5 = .ok (.getstatic 39, 3) := by decide +kernel
theorem w66 {Z a0} (hw : HW a0 Z) : ((Jvm.Cond.fieldLink "java/util/ArrayList" (39 : Nat) "java/util/ArrayList" "DEFAULTCAPACITY_EMPTY_ELEMENTDATA" "[Ljava/lang/Object;") : Jvm.Cond).before a0 Z = true := hw _ (List.mem_of_getElem? (i := 66) rfl)
theorem d9_8 : decode jdk_38_method_2_code 8 = .ok (.putfield 9, 3) := by decide +kernel
theorem pf_Ljava_lang_Object_ : parseFieldDescriptor "[Ljava/lang/Object;" = some (.array (.object "java/lang/Object")) := by decide
theorem w67 {Z a0} (hw : HW a0 Z) : ((Jvm.Cond.fieldLink "java/util/ArrayList" (9 : Nat) "java/util/ArrayList" "elementData" "[Ljava/lang/Object;") : Jvm.Cond).before a0 Z = true := hw _ (List.mem_of_getElem? (i := 67) rfl)
theorem d9_11 : decode jdk_38_method_2_code 11 = .ok (.return_, 1) := by decide +kernel
theorem c13_init {Z a0} (hw : HW a0 Z) (hs : SF Z) {p1 : Addr} {F : List Ent} : Con Z EL (⟨"java/util/ArrayList", "<init>", "()V"⟩ : MethodName) jdk_38_method_2_code 1 (Option.none : Option Jvm.ClassFile.FieldType) (rmm 3 0 0 36) [(vr p1)] ((p1, true, oArrayList (vi 0) .null) :: F) (fun v D' => (v = none ∧ (p1, true, oArrayList (vi 0) (vr (g2 Z))) :: F = D')) := by
  refine Con.of (ls := #[rv p1]) (by decide +kernel) rfl ?_
  show W Z EL _ "java/util/ArrayList" "<init>" _ _ _ _ _ _ _ _ _ _
  refine W.aloadN (pc := 0) d9_0 rfl rfl ?_
  refine W.callI (pc := 1) (as := []) 0 [] d9_1 rfl (w51 hw) (w52 hw) (w55 hw) (w56 hw) (c14_init hw hs (p1 := p1)) (by decide) pd__V rfl rfl rfl rfl (by decide) (fun v D' h => ?_)
  obtain ⟨rfl, rfl⟩ := h
  show W _ _ _ _ _ _ _ _ _ _ _ _ 4 _ []
  refine W.aloadN (pc := 4) d9_4 rfl rfl ?_
  refine W.gets (pc := 5) d9_5 (w66 hw) Via.refl hs.2.2.2.1 ?_
  refine W.putf (pc := 8) (D' := (p1, true, oArrayList (vi 0) (vr (g2 Z))) :: F) 0 1 d9_8 (w67 hw) Via.refl rfl rfl (Or.inl (w68 hw)) (w46 hw) pf_Ljava_lang_Object_ rfl rfl rfl ?_
  exact W.return_ (pc := 11) d9_11 rfl (by decide) ⟨rfl, rfl⟩
theorem w48 {Z a0} (hw : HW a0 Z) : ((Jvm.Cond.methodLink "com/example/montaje/montaje/beans/BeanDefinition" (21 : Nat) ({ cls := "java/util/ArrayList", name := "<init>", desc := "()V" } : Jvm.MethodName)) : Jvm.Cond).before a0 Z = true := hw _ (List.mem_of_getElem? (i := 48) rfl)
theorem w49 {Z a0} (hw : HW a0 Z) : ((Jvm.Cond.instanceMethod ({ cls := "java/util/ArrayList", name := "<init>", desc := "()V" } : Jvm.MethodName)) : Jvm.Cond).before a0 Z = true := hw _ (List.mem_of_getElem? (i := 49) rfl)
theorem w50 {Z a0} (hw : HW a0 Z) : ((Jvm.Cond.code ({ cls := "java/util/ArrayList", name := "<init>", desc := "()V" } : Jvm.MethodName) jdk_38_method_2_code (1 : Nat) (Option.none : Option Jvm.ClassFile.FieldType)) : Jvm.Cond).before a0 Z = true := hw _ (List.mem_of_getElem? (i := 50) rfl)
theorem d7_19 : decode prog_4_method_1_code 19 = .ok (.putfield 22, 3) := by decide +kernel
theorem w69 {Z a0} (hw : HW a0 Z) : ((Jvm.Cond.fieldLink "com/example/montaje/montaje/beans/BeanDefinition" (22 : Nat) "com/example/montaje/montaje/beans/BeanDefinition" "constructorArguments" "Ljava/util/List;") : Jvm.Cond).before a0 Z = true := hw _ (List.mem_of_getElem? (i := 69) rfl)
theorem d7_22 : decode prog_4_method_1_code 22 = .ok (.aload_n 0, 1) := by decide +kernel
theorem d7_23 : decode prog_4_method_1_code 23 = .ok (.new 25, 3) := by decide +kernel
theorem w92 {Z a0} (hw : HW a0 Z) : ((Jvm.Cond.laysFinal "java/util/LinkedHashMap" "java/util/HashMap" "loadFactor" "F") : Jvm.Cond).before a0 Z = true := hw _ (List.mem_of_getElem? (i := 92) rfl)
theorem w94 {Z a0} (hw : HW a0 Z) : ((Jvm.Cond.lays "java/util/LinkedHashMap" "java/util/LinkedHashMap" "putMode" "I") : Jvm.Cond).before a0 Z = true := hw _ (List.mem_of_getElem? (i := 94) rfl)
theorem w96 {Z a0} (hw : HW a0 Z) : ((Jvm.Cond.laysFinal "java/util/LinkedHashMap" "java/util/LinkedHashMap" "accessOrder" "Z") : Jvm.Cond).before a0 Z = true := hw _ (List.mem_of_getElem? (i := 96) rfl)
theorem laLinkedHashMap {Z a0} (hw : HW a0 Z) : LaidAll Z a0 "java/util/LinkedHashMap" [("java/util/HashMap", "loadFactor", "F", (.float 0)), ("java/util/LinkedHashMap", "putMode", "I", (vi 0)), ("java/util/LinkedHashMap", "accessOrder", "Z", (vi 0))] := ⟨⟨Or.inr (w92 hw), .float, by decide, rfl⟩, ⟨⟨Or.inl (w94 hw), .int, by decide, rfl⟩, ⟨⟨Or.inr (w96 hw), .boolean, by decide, rfl⟩, trivial⟩⟩⟩
theorem w71 {Z a0} (hw : HW a0 Z) : ((Jvm.Cond.classLink "com/example/montaje/montaje/beans/BeanDefinition" (25 : Nat) "java/util/LinkedHashMap") : Jvm.Cond).before a0 Z = true := hw _ (List.mem_of_getElem? (i := 71) rfl)
theorem w72 {Z a0} (hw : HW a0 Z) : ((Jvm.Cond.instantiable "java/util/LinkedHashMap" (12 : Nat)) : Jvm.Cond).before a0 Z = true := hw _ (List.mem_of_getElem? (i := 72) rfl)
theorem w73 {Z a0} (hw : HW a0 Z) : ((Jvm.Cond.initialized "java/util/LinkedHashMap") : Jvm.Cond).before a0 Z = true := hw _ (List.mem_of_getElem? (i := 73) rfl)
theorem d7_26 : decode prog_4_method_1_code 26 = .ok (.dup, 1) := by decide +kernel
theorem d7_27 : decode prog_4_method_1_code 27 = .ok (.invokespecial 27, 3) := by decide +kernel
theorem d12_0 : decode jdk_94_method_16_code 0 = .ok (.aload_n 0, 1) := by decide +kernel
theorem d12_1 : decode jdk_94_method_16_code 1 = .ok (.invokespecial 87, 3) := by decide +kernel
theorem d13_0 : decode jdk_69_method_7_code 0 = .ok (.aload_n 0, 1) := by decide +kernel
theorem d13_1 : decode jdk_69_method_7_code 1 = .ok (.invokespecial 43, 3) := by decide +kernel
theorem d14_0 : decode jdk_71_method_1_code 0 = .ok (.aload_n 0, 1) := by decide +kernel
theorem d14_1 : decode jdk_71_method_1_code 1 = .ok (.invokespecial 1, 3) := by decide +kernel
theorem w89 {Z a0} (hw : HW a0 Z) : ((Jvm.Cond.methodLink "java/util/AbstractMap" (1 : Nat) ({ cls := "java/lang/Object", name := "<init>", desc := "()V" } : Jvm.MethodName)) : Jvm.Cond).before a0 Z = true := hw _ (List.mem_of_getElem? (i := 89) rfl)
theorem d14_4 : decode jdk_71_method_1_code 4 = .ok (.return_, 1) := by decide +kernel
abbrev oLinkedHashMap (f0 f1 f2 : Value) : Desc := .inl ("java/util/LinkedHashMap", [("java/util/HashMap", "loadFactor", "F", f0), ("java/util/LinkedHashMap", "putMode", "I", f1), ("java/util/LinkedHashMap", "accessOrder", "Z", f2)])
theorem c18_init {Z a0} (hw : HW a0 Z) (hs : SF Z) {p1 : Addr} {F : List Ent} : Con Z EL (⟨"java/util/AbstractMap", "<init>", "()V"⟩ : MethodName) jdk_71_method_1_code 1 (Option.none : Option Jvm.ClassFile.FieldType) (rmm 1 0 0 12) [(vr p1)] (F) (fun v D' => (v = none ∧ F = D')) := by
  refine Con.of (ls := #[rv p1]) (by decide +kernel) rfl ?_
  show W Z EL _ "java/util/AbstractMap" "<init>" _ _ _ _ _ _ _ _ _ _
  refine W.aloadN (pc := 0) d14_0 rfl rfl ?_
  refine W.initO (pc := 1) 0 d14_1 (w89 hw) (w12 hw) (w13 hw) rfl rfl (by decide) ?_
  exact W.return_ (pc := 4) d14_4 rfl (by decide) ⟨rfl, rfl⟩
theorem w83 {Z a0} (hw : HW a0 Z) : ((Jvm.Cond.methodLink "java/util/HashMap" (43 : Nat) ({ cls := "java/util/AbstractMap", name := "<init>", desc := "()V" } : Jvm.MethodName)) : Jvm.Cond).before a0 Z = true := hw _ (List.mem_of_getElem? (i := 83) rfl)
theorem w84 {Z a0} (hw : HW a0 Z) : ((Jvm.Cond.instanceMethod ({ cls := "java/util/AbstractMap", name := "<init>", desc := "()V" } : Jvm.MethodName)) : Jvm.Cond).before a0 Z = true := hw _ (List.mem_of_getElem? (i := 84) rfl)
theorem w87 {Z a0} (hw : HW a0 Z) : ((Jvm.Cond.initialized "java/util/AbstractMap") : Jvm.Cond).before a0 Z = true := hw _ (List.mem_of_getElem? (i := 87) rfl)
theorem w88 {Z a0} (hw : HW a0 Z) : ((Jvm.Cond.code ({ cls := "java/util/AbstractMap", name := "<init>", desc := "()V" } : Jvm.MethodName) jdk_71_method_1_code (1 : Nat) (Option.none : Option Jvm.ClassFile.FieldType)) : Jvm.Cond).before a0 Z = true := hw _ (List.mem_of_getElem? (i := 88) rfl)
theorem d13_4 : decode jdk_69_method_7_code 4 = .ok (.aload_n 0, 1) := by decide +kernel
theorem d13_5 : decode jdk_69_method_7_code 5 = .ok (.ldc 92, 2) := by decide +kernel
theorem w90 {Z a0} (hw : HW a0 Z) : ((Jvm.Cond.constantFloat "java/util/HashMap" (92 : Nat) (1061158912 : UInt32)) : Jvm.Cond).before a0 Z = true := hw _ (List.mem_of_getElem? (i := 90) rfl)
theorem d13_7 : decode jdk_69_method_7_code 7 = .ok (.putfield 81, 3) := by decide +kernel
theorem pfF : parseFieldDescriptor "F" = some .float := by decide
theorem w91 {Z a0} (hw : HW a0 Z) : ((Jvm.Cond.fieldLink "java/util/HashMap" (81 : Nat) "java/util/HashMap" "loadFactor" "F") : Jvm.Cond).before a0 Z = true := hw _ (List.mem_of_getElem? (i := 91) rfl)
theorem d13_10 : decode jdk_69_method_7_code 10 = .ok (.return_, 1) := by decide +kernel
theorem c17_init {Z a0} (hw : HW a0 Z) (hs : SF Z) {p1 : Addr} {F : List Ent} : Con Z EL (⟨"java/util/HashMap", "<init>", "()V"⟩ : MethodName) jdk_69_method_7_code 1 (Option.none : Option Jvm.ClassFile.FieldType) (rmm 2 0 0 24) [(vr p1)] ((p1, true, oLinkedHashMap (.float 0) (vi 0) (vi 0)) :: F) (fun v D' => (v = none ∧ (p1, true, oLinkedHashMap (.float 1061158912) (vi 0) (vi 0)) :: F = D')) := by
  refine Con.of (ls := #[rv p1]) (by decide +kernel) rfl ?_
  show W Z EL _ "java/util/HashMap" "<init>" _ _ _ _ _ _ _ _ _ _
  refine W.aloadN (pc := 0) d13_0 rfl rfl ?_
  refine W.callI (pc := 1) (as := []) 0 [] d13_1 rfl (w83 hw) (w84 hw) (w87 hw) (w88 hw) (c18_init hw hs (p1 := p1)) (by decide) pd__V rfl rfl rfl rfl (by decide) (fun v D' h => ?_)
  obtain ⟨rfl, rfl⟩ := h
  show W _ _ _ _ _ _ _ _ _ _ _ _ 4 _ []
  refine W.aloadN (pc := 4) d13_4 rfl rfl ?_
  refine W.ldcF (pc := 5) d13_5 (w90 hw) ?_
  refine W.putf (pc := 7) (D' := (p1, true, oLinkedHashMap (.float 1061158912) (vi 0) (vi 0)) :: F) 0 0 d13_7 (w91 hw) Via.refl rfl rfl (Or.inr ⟨(w92 hw), rfl, rfl⟩) (w72 hw) pfF rfl rfl rfl ?_
  exact W.return_ (pc := 10) d13_10 rfl (by decide) ⟨rfl, rfl⟩
theorem w77 {Z a0} (hw : HW a0 Z) : ((Jvm.Cond.methodLink "java/util/LinkedHashMap" (87 : Nat) ({ cls := "java/util/HashMap", name := "<init>", desc := "()V" } : Jvm.MethodName)) : Jvm.Cond).before a0 Z = true := hw _ (List.mem_of_getElem? (i := 77) rfl)
theorem w78 {Z a0} (hw : HW a0 Z) : ((Jvm.Cond.instanceMethod ({ cls := "java/util/HashMap", name := "<init>", desc := "()V" } : Jvm.MethodName)) : Jvm.Cond).before a0 Z = true := hw _ (List.mem_of_getElem? (i := 78) rfl)
theorem w81 {Z a0} (hw : HW a0 Z) : ((Jvm.Cond.initialized "java/util/HashMap") : Jvm.Cond).before a0 Z = true := hw _ (List.mem_of_getElem? (i := 81) rfl)
theorem w82 {Z a0} (hw : HW a0 Z) : ((Jvm.Cond.code ({ cls := "java/util/HashMap", name := "<init>", desc := "()V" } : Jvm.MethodName) jdk_69_method_7_code (1 : Nat) (Option.none : Option Jvm.ClassFile.FieldType)) : Jvm.Cond).before a0 Z = true := hw _ (List.mem_of_getElem? (i := 82) rfl)
theorem d12_4 : decode jdk_94_method_16_code 4 = .ok (.aload_n 0, 1) := by decide +kernel
theorem d12_5 : decode jdk_94_method_16_code 5 = .ok (.iconst 0, 1) := by decide +kernel
theorem d12_6 : decode jdk_94_method_16_code 6 = .ok (.putfield 1, 3) := by decide +kernel
theorem w93 {Z a0} (hw : HW a0 Z) : ((Jvm.Cond.fieldLink "java/util/LinkedHashMap" (1 : Nat) "java/util/LinkedHashMap" "putMode" "I") : Jvm.Cond).before a0 Z = true := hw _ (List.mem_of_getElem? (i := 93) rfl)
theorem d12_9 : decode jdk_94_method_16_code 9 = .ok (.aload_n 0, 1) := by decide +kernel
theorem d12_10 : decode jdk_94_method_16_code 10 = .ok (.iconst 0, 1) := by decide +kernel
theorem d12_11 : decode jdk_94_method_16_code 11 = .ok (.putfield 64, 3) := by decide +kernel
theorem pfZ : parseFieldDescriptor "Z" = some .boolean := by decide
theorem w95 {Z a0} (hw : HW a0 Z) : ((Jvm.Cond.fieldLink "java/util/LinkedHashMap" (64 : Nat) "java/util/LinkedHashMap" "accessOrder" "Z") : Jvm.Cond).before a0 Z = true := hw _ (List.mem_of_getElem? (i := 95) rfl)
theorem d12_14 : decode jdk_94_method_16_code 14 = .ok (.return_, 1) := by decide +kernel
theorem c16_init {Z a0} (hw : HW a0 Z) (hs : SF Z) {p1 : Addr} {F : List Ent} : Con Z EL (⟨"java/util/LinkedHashMap", "<init>", "()V"⟩ : MethodName) jdk_94_method_16_code 1 (Option.none : Option Jvm.ClassFile.FieldType) (rmm 3 0 0 36) [(vr p1)] ((p1, true, oLinkedHashMap (.float 0) (vi 0) (vi 0)) :: F) (fun v D' => (v = none ∧ (p1, true, oLinkedHashMap (.float 1061158912) (vi 0) (vi 0)) :: F = D')) := by
  refine Con.of (ls := #[rv p1]) (by decide +kernel) rfl ?_
  show W Z EL _ "java/util/LinkedHashMap" "<init>" _ _ _ _ _ _ _ _ _ _
  refine W.aloadN (pc := 0) d12_0 rfl rfl ?_
  refine W.callI (pc := 1) (as := []) 0 [] d12_1 rfl (w77 hw) (w78 hw) (w81 hw) (w82 hw) (c17_init hw hs (p1 := p1)) (by decide) pd__V rfl rfl rfl rfl (by decide) (fun v D' h => ?_)
  obtain ⟨rfl, rfl⟩ := h
  show W _ _ _ _ _ _ _ _ _ _ _ _ 4 _ []
  refine W.aloadN (pc := 4) d12_4 rfl rfl ?_
  refine W.iconst (pc := 5) (0) d12_5 (by decide) ?_
  refine W.putf (pc := 6) (D' := (p1, true, oLinkedHashMap (.float 1061158912) (vi 0) (vi 0)) :: F) 0 1 d12_6 (w93 hw) Via.refl rfl rfl (Or.inl (w94 hw)) (w72 hw) pfI rfl rfl rfl ?_
  refine W.aloadN (pc := 9) d12_9 rfl rfl ?_
  refine W.iconst (pc := 10) (0) d12_10 (by decide) ?_
  refine W.putf (pc := 11) (D' := (p1, true, oLinkedHashMap (.float 1061158912) (vi 0) (vi 0)) :: F) 0 2 d12_11 (w95 hw) Via.refl rfl rfl (Or.inr ⟨(w96 hw), rfl, rfl⟩) (w72 hw) pfZ (nw_bool (by decide)) (ft_bool (by decide)) rfl ?_
  exact W.return_ (pc := 14) d12_14 rfl (by decide) ⟨rfl, rfl⟩
theorem w74 {Z a0} (hw : HW a0 Z) : ((Jvm.Cond.methodLink "com/example/montaje/montaje/beans/BeanDefinition" (27 : Nat) ({ cls := "java/util/LinkedHashMap", name := "<init>", desc := "()V" } : Jvm.MethodName)) : Jvm.Cond).before a0 Z = true := hw _ (List.mem_of_getElem? (i := 74) rfl)
theorem w75 {Z a0} (hw : HW a0 Z) : ((Jvm.Cond.instanceMethod ({ cls := "java/util/LinkedHashMap", name := "<init>", desc := "()V" } : Jvm.MethodName)) : Jvm.Cond).before a0 Z = true := hw _ (List.mem_of_getElem? (i := 75) rfl)
theorem w76 {Z a0} (hw : HW a0 Z) : ((Jvm.Cond.code ({ cls := "java/util/LinkedHashMap", name := "<init>", desc := "()V" } : Jvm.MethodName) jdk_94_method_16_code (1 : Nat) (Option.none : Option Jvm.ClassFile.FieldType)) : Jvm.Cond).before a0 Z = true := hw _ (List.mem_of_getElem? (i := 76) rfl)
theorem d7_30 : decode prog_4_method_1_code 30 = .ok (.putfield 28, 3) := by decide +kernel
theorem pfLjava_util_Map_ : parseFieldDescriptor "Ljava/util/Map;" = some (.object "java/util/Map") := by decide
theorem w97 {Z a0} (hw : HW a0 Z) : ((Jvm.Cond.fieldLink "com/example/montaje/montaje/beans/BeanDefinition" (28 : Nat) "com/example/montaje/montaje/beans/BeanDefinition" "propertyValues" "Ljava/util/Map;") : Jvm.Cond).before a0 Z = true := hw _ (List.mem_of_getElem? (i := 97) rfl)
theorem d7_33 : decode prog_4_method_1_code 33 = .ok (.aload_n 0, 1) := by decide +kernel
theorem d7_34 : decode prog_4_method_1_code 34 = .ok (.new 25, 3) := by decide +kernel
theorem d7_37 : decode prog_4_method_1_code 37 = .ok (.dup, 1) := by decide +kernel
theorem d7_38 : decode prog_4_method_1_code 38 = .ok (.invokespecial 27, 3) := by decide +kernel
theorem d7_41 : decode prog_4_method_1_code 41 = .ok (.putfield 32, 3) := by decide +kernel
theorem w99 {Z a0} (hw : HW a0 Z) : ((Jvm.Cond.fieldLink "com/example/montaje/montaje/beans/BeanDefinition" (32 : Nat) "com/example/montaje/montaje/beans/BeanDefinition" "qualifiers" "Ljava/util/Map;") : Jvm.Cond).before a0 Z = true := hw _ (List.mem_of_getElem? (i := 99) rfl)
theorem d7_44 : decode prog_4_method_1_code 44 = .ok (.aload_n 0, 1) := by decide +kernel
theorem d7_45 : decode prog_4_method_1_code 45 = .ok (.aload_n 1, 1) := by decide +kernel
theorem d7_46 : decode prog_4_method_1_code 46 = .ok (.putfield 35, 3) := by decide +kernel
theorem pfLjava_lang_String_ : parseFieldDescriptor "Ljava/lang/String;" = some (.object "java/lang/String") := by decide
theorem w101 {Z a0} (hw : HW a0 Z) : ((Jvm.Cond.fieldLink "com/example/montaje/montaje/beans/BeanDefinition" (35 : Nat) "com/example/montaje/montaje/beans/BeanDefinition" "beanClassName" "Ljava/lang/String;") : Jvm.Cond).before a0 Z = true := hw _ (List.mem_of_getElem? (i := 101) rfl)
theorem d7_49 : decode prog_4_method_1_code 49 = .ok (.aload_n 0, 1) := by decide +kernel
theorem d7_50 : decode prog_4_method_1_code 50 = .ok (.aload_n 2, 1) := by decide +kernel
theorem d7_51 : decode prog_4_method_1_code 51 = .ok (.ldc 39, 2) := by decide +kernel
theorem w103 {Z a0} (hw : HW a0 Z) : ((Jvm.Cond.stringLink "com/example/montaje/montaje/beans/BeanDefinition" (39 : Nat) "source") : Jvm.Cond).before a0 Z = true := hw _ (List.mem_of_getElem? (i := 103) rfl)
theorem tx_736f75726365 : (∀ c ∈ ("source" : String).toList, c.toNat < 256) ∧ ("source" : String).toList.map (fun c => Value.int (Jvm.Lit.byteI c.toNat.toUInt16)) = [(.int (115 : Int32)), (.int (111 : Int32)), (.int (117 : Int32)), (.int (114 : Int32)), (.int (99 : Int32)), (.int (101 : Int32))] := by decide
theorem w104 {Z a0} (hw : HW a0 Z) : ((Jvm.Cond.soleField "java/lang/String" "value") : Jvm.Cond).before a0 Z = true := hw _ (List.mem_of_getElem? (i := 104) rfl)
theorem w105 {Z a0} (hw : HW a0 Z) : ((Jvm.Cond.soleField "java/lang/String" "coder") : Jvm.Cond).before a0 Z = true := hw _ (List.mem_of_getElem? (i := 105) rfl)
theorem wS {Z a0} (hw : HW a0 Z) : ∀ a ∈ Bundle.stringAtoms, a.before a0 Z = true := wS_of (w3 hw) (w2 hw) (w19 hw) (w29 hw) (w27 hw) (w104 hw) (w105 hw)
theorem d7_53 : decode prog_4_method_1_code 53 = .ok (.invokestatic 41, 3) := by decide +kernel
theorem d15_0 : decode jdk_31_method_11_code 0 = .ok (.aload_n 0, 1) := by decide +kernel
theorem d15_1 : decode jdk_31_method_11_code 1 = .ok (.ifnonnull 12, 3) := by decide +kernel
theorem d15_13 : decode jdk_31_method_11_code 13 = .ok (.aload_n 0, 1) := by decide +kernel
theorem d15_14 : decode jdk_31_method_11_code 14 = .ok (.areturn, 1) := by decide +kernel
theorem c19_requireNonNull {Z a0} (hw : HW a0 Z) (hs : SF Z) {p1 p2 p3 p4 : Addr} {x1 : Int32} (hx1 : -128 ≤ x1.toInt ∧ x1.toInt ≤ 127) {x2 : Int32} (hx2 : -128 ≤ x2.toInt ∧ x2.toInt ≤ 127) {F : List Ent} : Con Z EL (⟨"java/util/Objects", "requireNonNull", "(Ljava/lang/Object;Ljava/lang/String;)Ljava/lang/Object;"⟩ : MethodName) jdk_31_method_11_code 2 (Option.some (Jvm.ClassFile.FieldType.object "java/lang/Object")) (rmm 0 0 0 0) [(vr p1), (vr p2)] (F) (fun v D' => (v = some (vr p1) ∧ F = D')) := by
  refine Con.of (ls := #[rv p1, rv p2]) (by decide +kernel) rfl ?_
  show W Z EL _ "java/util/Objects" "requireNonNull" _ _ _ _ _ _ _ _ _ _
  refine W.aloadN (pc := 0) d15_0 rfl rfl ?_
  refine W.ifnonnullY (pc := 1) 13 d15_1 (by decide) ?_
  refine W.aloadN (pc := 13) d15_13 rfl rfl ?_
  exact W.areturn (pc := 14) d15_14 rfl rfl rfl (by decide) ⟨rfl, rfl⟩
theorem pd_Ljava_lang_Object_Ljava_lang_String__Ljava_lang_Object_ : parseMethodDescriptor "(Ljava/lang/Object;Ljava/lang/String;)Ljava/lang/Object;" = some ⟨[(.object "java/lang/Object"), (.object "java/lang/String")], some (.object "java/lang/Object")⟩ := by decide +kernel
theorem w106 {Z a0} (hw : HW a0 Z) : ((Jvm.Cond.methodLink "com/example/montaje/montaje/beans/BeanDefinition" (41 : Nat) ({ cls := "java/util/Objects", name := "requireNonNull", desc := "(Ljava/lang/Object;Ljava/lang/String;)Ljava/lang/Object;" } : Jvm.MethodName)) : Jvm.Cond).before a0 Z = true := hw _ (List.mem_of_getElem? (i := 106) rfl)
theorem w107 {Z a0} (hw : HW a0 Z) : ((Jvm.Cond.static ({ cls := "java/util/Objects", name := "requireNonNull", desc := "(Ljava/lang/Object;Ljava/lang/String;)Ljava/lang/Object;" } : Jvm.MethodName)) : Jvm.Cond).before a0 Z = true := hw _ (List.mem_of_getElem? (i := 107) rfl)
theorem w108 {Z a0} (hw : HW a0 Z) : ((Jvm.Cond.initialized "java/util/Objects") : Jvm.Cond).before a0 Z = true := hw _ (List.mem_of_getElem? (i := 108) rfl)
theorem w109 {Z a0} (hw : HW a0 Z) : ((Jvm.Cond.code ({ cls := "java/util/Objects", name := "requireNonNull", desc := "(Ljava/lang/Object;Ljava/lang/String;)Ljava/lang/Object;" } : Jvm.MethodName) jdk_31_method_11_code (2 : Nat) (Option.some (Jvm.ClassFile.FieldType.object "java/lang/Object"))) : Jvm.Cond).before a0 Z = true := hw _ (List.mem_of_getElem? (i := 109) rfl)
theorem d7_56 : decode prog_4_method_1_code 56 = .ok (.checkcast 47, 3) := by decide +kernel
theorem w110 {Z a0} (hw : HW a0 Z) : ((Jvm.Cond.classLink "com/example/montaje/montaje/beans/BeanDefinition" (47 : Nat) "java/lang/String") : Jvm.Cond).before a0 Z = true := hw _ (List.mem_of_getElem? (i := 110) rfl)
theorem d7_59 : decode prog_4_method_1_code 59 = .ok (.putfield 49, 3) := by decide +kernel
theorem w111 {Z a0} (hw : HW a0 Z) : ((Jvm.Cond.fieldLink "com/example/montaje/montaje/beans/BeanDefinition" (49 : Nat) "com/example/montaje/montaje/beans/BeanDefinition" "source" "Ljava/lang/String;") : Jvm.Cond).before a0 Z = true := hw _ (List.mem_of_getElem? (i := 111) rfl)
theorem d7_62 : decode prog_4_method_1_code 62 = .ok (.return_, 1) := by decide +kernel
theorem c20_requireNonNull {Z a0} (hw : HW a0 Z) (hs : SF Z) {p1 p2 p3 p4 : Addr} {F : List Ent} : Con Z EL (⟨"java/util/Objects", "requireNonNull", "(Ljava/lang/Object;Ljava/lang/String;)Ljava/lang/Object;"⟩ : MethodName) jdk_31_method_11_code 2 (Option.some (Jvm.ClassFile.FieldType.object "java/lang/Object")) (rmm 0 0 0 0) [(vr p1), (vr p2)] (F) (fun v D' => (v = some (vr p1) ∧ F = D')) := by
  refine Con.of (ls := #[rv p1, rv p2]) (by decide +kernel) rfl ?_
  show W Z EL _ "java/util/Objects" "requireNonNull" _ _ _ _ _ _ _ _ _ _
  refine W.aloadN (pc := 0) d15_0 rfl rfl ?_
  refine W.ifnonnullY (pc := 1) 13 d15_1 (by decide) ?_
  refine W.aloadN (pc := 13) d15_13 rfl rfl ?_
  exact W.areturn (pc := 14) d15_14 rfl rfl rfl (by decide) ⟨rfl, rfl⟩
theorem c11_init {Z a0} (hw : HW a0 Z) (hs : SF Z) {p1 p2 p3 : Addr} {x1 : Int32} (hx1 : -128 ≤ x1.toInt ∧ x1.toInt ≤ 127) {x2 : Int32} (hx2 : -128 ≤ x2.toInt ∧ x2.toInt ≤ 127) {u1 : Value} (hu1 : u1.isRef = true) {w_p2 : Bool} {F : List Ent} (mp2 : (p2, w_p2, oString (vr p3) (vi 0)) ∈ F) : Con Z EL (⟨"com/example/montaje/montaje/beans/BeanDefinition", "<init>", "(Ljava/lang/String;Ljava/lang/String;)V"⟩ : MethodName) prog_4_method_1_code 3 (Option.none : Option Jvm.ClassFile.FieldType) (rmm 4 5 55 50) [(vr p1), u1, (vr p2)] ((p1, true, oBeanDefinition .null .null .null .null .null .null .null) :: F) (fun v D' => (∃ a1 a2 a3 : Addr, v = none ∧ (a3, true, oLinkedHashMap (.float 1061158912) (vi 0) (vi 0)) :: (a2, true, oLinkedHashMap (.float 1061158912) (vi 0) (vi 0)) :: (a1, true, oArrayList (vi 0) (vr (g2 Z))) :: (p1, true, oBeanDefinition (vr (g1 Z)) (vr a1) (vr a2) (vr a3) u1 (vr p2) .null) :: F = D')) := by
  refine Con.of (ls := #[rv p1, .val u1, rv p2]) (by decide +kernel) (hent_of (ld1 rfl (ld1 (XT.cat1 hu1) (ld1 rfl ld0))) rfl) ?_
  show W Z EL _ "com/example/montaje/montaje/beans/BeanDefinition" "<init>" _ _ _ _ _ _ _ _ _ _
  refine W.aloadN (pc := 0) d7_0 rfl rfl ?_
  refine W.initO (pc := 1) 0 d7_1 (w36 hw) (w12 hw) (w13 hw) rfl rfl (by decide) ?_
  refine W.aloadN (pc := 4) d7_4 rfl rfl ?_
  refine W.callS (pc := 5) (as := []) 1 [(vr p1)] d7_5 (w37 hw) (w38 hw) (w39 hw) (w40 hw) (c12_of hw hs) (by decide) pd__Ljava_util_List_ rfl rfl rfl rfl (by decide) (fun v D' h => ?_)
  obtain ⟨rfl, rfl⟩ := h
  show W _ _ _ _ _ _ _ _ _ _ _ _ 8 _ [(vr (g1 Z)), (vr p1)]
  refine W.putf (pc := 8) (D' := (p1, true, oBeanDefinition (vr (g1 Z)) .null .null .null .null .null .null) :: F) 0 0 d7_8 (w43 hw) Via.refl rfl rfl (Or.inl (w44 hw)) (w31 hw) pfLjava_util_List_ rfl rfl rfl ?_
  refine W.aloadN (pc := 11) d7_11 rfl rfl ?_
  refine W.new (pc := 12) d7_12 (w45 hw) (w46 hw) (w47 hw) (laArrayList hw) (by decide) (by decide) (fun a1 => ?_)
  show W _ _ _ _ _ _ _ _ _ _ _ _ 15 _ [(vr a1), (vr p1)]
  refine W.dup (pc := 15) d7_15 rfl ?_
  refine W.callI (pc := 16) (as := []) 2 [(vr a1), (vr p1)] d7_16 rfl (w48 hw) (w49 hw) (w47 hw) (w50 hw) (c13_init hw hs (p1 := a1)) (by decide) pd__V rfl rfl rfl rfl (by decide) (fun v D' h => ?_)
  obtain ⟨rfl, rfl⟩ := h
  show W _ _ _ _ _ _ _ _ _ _ _ _ 19 _ [(vr a1), (vr p1)]
  refine W.putf (pc := 19) (D' := (a1, true, oArrayList (vi 0) (vr (g2 Z))) :: (p1, true, oBeanDefinition (vr (g1 Z)) (vr a1) .null .null .null .null .null) :: F) 1 1 d7_19 (w69 hw) Via.refl rfl rfl (Or.inr ⟨(w70 hw), rfl, rfl⟩) (w31 hw) pfLjava_util_List_ rfl rfl rfl ?_
  refine W.aloadN (pc := 22) d7_22 rfl rfl ?_
  refine W.new (pc := 23) d7_23 (w71 hw) (w72 hw) (w73 hw) (laLinkedHashMap hw) (by decide) (by decide) (fun a2 => ?_)
  show W _ _ _ _ _ _ _ _ _ _ _ _ 26 _ [(vr a2), (vr p1)]
  refine W.dup (pc := 26) d7_26 rfl ?_
  refine W.callI (pc := 27) (as := []) 2 [(vr a2), (vr p1)] d7_27 rfl (w74 hw) (w75 hw) (w73 hw) (w76 hw) (c16_init hw hs (p1 := a2)) (by decide) pd__V rfl rfl rfl rfl (by decide) (fun v D' h => ?_)
  obtain ⟨rfl, rfl⟩ := h
  show W _ _ _ _ _ _ _ _ _ _ _ _ 30 _ [(vr a2), (vr p1)]
  refine W.putf (pc := 30) (D' := (a2, true, oLinkedHashMap (.float 1061158912) (vi 0) (vi 0)) :: (a1, true, oArrayList (vi 0) (vr (g2 Z))) :: (p1, true, oBeanDefinition (vr (g1 Z)) (vr a1) (vr a2) .null .null .null .null) :: F) 2 2 d7_30 (w97 hw) Via.refl rfl rfl (Or.inr ⟨(w98 hw), rfl, rfl⟩) (w31 hw) pfLjava_util_Map_ rfl rfl rfl ?_
  refine W.aloadN (pc := 33) d7_33 rfl rfl ?_
  refine W.new (pc := 34) d7_34 (w71 hw) (w72 hw) (w73 hw) (laLinkedHashMap hw) (by decide) (by decide) (fun a3 => ?_)
  show W _ _ _ _ _ _ _ _ _ _ _ _ 37 _ [(vr a3), (vr p1)]
  refine W.dup (pc := 37) d7_37 rfl ?_
  refine W.callI (pc := 38) (as := []) 2 [(vr a3), (vr p1)] d7_38 rfl (w74 hw) (w75 hw) (w73 hw) (w76 hw) (c16_init hw hs (p1 := a3)) (by decide) pd__V rfl rfl rfl rfl (by decide) (fun v D' h => ?_)
  obtain ⟨rfl, rfl⟩ := h
  show W _ _ _ _ _ _ _ _ _ _ _ _ 41 _ [(vr a3), (vr p1)]
  refine W.putf (pc := 41) (D' := (a3, true, oLinkedHashMap (.float 1061158912) (vi 0) (vi 0)) :: (a2, true, oLinkedHashMap (.float 1061158912) (vi 0) (vi 0)) :: (a1, true, oArrayList (vi 0) (vr (g2 Z))) :: (p1, true, oBeanDefinition (vr (g1 Z)) (vr a1) (vr a2) (vr a3) .null .null .null) :: F) 3 3 d7_41 (w99 hw) Via.refl rfl rfl (Or.inr ⟨(w100 hw), rfl, rfl⟩) (w31 hw) pfLjava_util_Map_ rfl rfl rfl ?_
  refine W.aloadN (pc := 44) d7_44 rfl rfl ?_
  refine W.aloadN (pc := 45) d7_45 rfl hu1 ?_
  refine W.putf (pc := 46) (D' := (a3, true, oLinkedHashMap (.float 1061158912) (vi 0) (vi 0)) :: (a2, true, oLinkedHashMap (.float 1061158912) (vi 0) (vi 0)) :: (a1, true, oArrayList (vi 0) (vr (g2 Z))) :: (p1, true, oBeanDefinition (vr (g1 Z)) (vr a1) (vr a2) (vr a3) u1 .null .null) :: F) 3 4 d7_46 (w101 hw) Via.refl rfl rfl (Or.inr ⟨(w102 hw), rfl, rfl⟩) (w31 hw) pfLjava_lang_String_ (narU u1) (fitU hu1 rfl) rfl ?_
  refine W.aloadN (pc := 49) d7_49 rfl rfl ?_
  refine W.aloadN (pc := 50) d7_50 rfl rfl ?_
  refine W.ldcT (pc := 51) 24 (vs := [(vi 115), (vi 111), (vi 117), (vi 114), (vi 99), (vi 101)]) rfl d7_51 (w103 hw) (wS hw) m0 tx_736f75726365 (by decide) (by decide) (by decide) (fun a4 a5 => ?_)
  show W _ _ _ _ _ _ _ _ _ _ _ _ 53 _ [(vr a4), (vr p2), (vr p1)]
  refine W.callS (pc := 53) (as := [(vr p2), (vr a4)]) 1 [(vr p1)] d7_53 (w106 hw) (w107 hw) (w108 hw) (w109 hw) (c20_requireNonNull hw hs (p1 := p2) (p2 := a4) (p3 := p3) (p4 := a5)) (by decide) pd_Ljava_lang_Object_Ljava_lang_String__Ljava_lang_Object_ rfl rfl rfl rfl (by decide) (fun v D' h => ?_)
  obtain ⟨rfl, rfl⟩ := h
  show W _ _ _ _ _ _ _ _ _ _ _ _ 56 _ [(vr p2), (vr p1)]
  refine W.castY (pc := 56) d7_56 (w110 hw) (Hp.ins (mS (mS (mS (mS (mS (mS mp2))))))) ?_
  refine W.putf (pc := 59) (D' := (a4, false, oString (vr a5) (vi 0)) :: (a5, false, ar "" .byte [(vi 115), (vi 111), (vi 117), (vi 114), (vi 99), (vi 101)]) :: (a3, true, oLinkedHashMap (.float 1061158912) (vi 0) (vi 0)) :: (a2, true, oLinkedHashMap (.float 1061158912) (vi 0) (vi 0)) :: (a1, true, oArrayList (vi 0) (vr (g2 Z))) :: (p1, true, oBeanDefinition (vr (g1 Z)) (vr a1) (vr a2) (vr a3) u1 (vr p2) .null) :: F) 5 5 d7_59 (w111 hw) Via.refl rfl rfl (Or.inr ⟨(w112 hw), rfl, rfl⟩) (w31 hw) pfLjava_lang_String_ rfl rfl rfl ?_
  refine W.dropAt 0 (D' := (a5, false, ar "" .byte [(vi 115), (vi 111), (vi 117), (vi 114), (vi 99), (vi 101)]) :: (a3, true, oLinkedHashMap (.float 1061158912) (vi 0) (vi 0)) :: (a2, true, oLinkedHashMap (.float 1061158912) (vi 0) (vi 0)) :: (a1, true, oArrayList (vi 0) (vr (g2 Z))) :: (p1, true, oBeanDefinition (vr (g1 Z)) (vr a1) (vr a2) (vr a3) u1 (vr p2) .null) :: F) rfl ?_
  refine W.dropAt 0 (D' := (a3, true, oLinkedHashMap (.float 1061158912) (vi 0) (vi 0)) :: (a2, true, oLinkedHashMap (.float 1061158912) (vi 0) (vi 0)) :: (a1, true, oArrayList (vi 0) (vr (g2 Z))) :: (p1, true, oBeanDefinition (vr (g1 Z)) (vr a1) (vr a2) (vr a3) u1 (vr p2) .null) :: F) rfl ?_
  exact W.return_ (pc := 62) d7_62 rfl (by decide) ⟨a1, a2, a3, rfl, rfl⟩
theorem pd_Ljava_lang_String_Ljava_lang_String__V : parseMethodDescriptor "(Ljava/lang/String;Ljava/lang/String;)V" = some ⟨[(.object "java/lang/String"), (.object "java/lang/String")], none⟩ := by decide +kernel
theorem w33 {Z a0} (hw : HW a0 Z) : ((Jvm.Cond.methodLink "com/example/montaje/montaje/beans/BeanDefinitionGetScopePinLaw" (14 : Nat) ({ cls := "com/example/montaje/montaje/beans/BeanDefinition", name := "<init>", desc := "(Ljava/lang/String;Ljava/lang/String;)V" } : Jvm.MethodName)) : Jvm.Cond).before a0 Z = true := hw _ (List.mem_of_getElem? (i := 33) rfl)
theorem w34 {Z a0} (hw : HW a0 Z) : ((Jvm.Cond.instanceMethod ({ cls := "com/example/montaje/montaje/beans/BeanDefinition", name := "<init>", desc := "(Ljava/lang/String;Ljava/lang/String;)V" } : Jvm.MethodName)) : Jvm.Cond).before a0 Z = true := hw _ (List.mem_of_getElem? (i := 34) rfl)
theorem w35 {Z a0} (hw : HW a0 Z) : ((Jvm.Cond.code ({ cls := "com/example/montaje/montaje/beans/BeanDefinition", name := "<init>", desc := "(Ljava/lang/String;Ljava/lang/String;)V" } : Jvm.MethodName) prog_4_method_1_code (3 : Nat) (Option.none : Option Jvm.ClassFile.FieldType)) : Jvm.Cond).before a0 Z = true := hw _ (List.mem_of_getElem? (i := 35) rfl)
theorem w113 {Z a0} (hw : HW a0 Z) : ((Jvm.Cond.constant "com/example/montaje/montaje/beans/BeanDefinitionGetScopePinLaw" (17 : Nat) (2147483647 : Int32)) : Jvm.Cond).before a0 Z = true := hw _ (List.mem_of_getElem? (i := 113) rfl)
theorem w114 {Z a0} (hw : HW a0 Z) : ((Jvm.Cond.stringLink "com/example/montaje/montaje/beans/BeanDefinitionGetScopePinLaw" (18 : Nat) "singleton") : Jvm.Cond).before a0 Z = true := hw _ (List.mem_of_getElem? (i := 114) rfl)
theorem tx_73696e676c65746f6e : (∀ c ∈ ("singleton" : String).toList, c.toNat < 256) ∧ ("singleton" : String).toList.map (fun c => Value.int (Jvm.Lit.byteI c.toNat.toUInt16)) = [(.int (115 : Int32)), (.int (105 : Int32)), (.int (110 : Int32)), (.int (103 : Int32)), (.int (108 : Int32)), (.int (101 : Int32)), (.int (116 : Int32)), (.int (111 : Int32)), (.int (110 : Int32))] := by decide
theorem d16_0 : decode prog_4_method_8_code 0 = .ok (.aload_n 0, 1) := by decide +kernel
theorem d16_1 : decode prog_4_method_8_code 1 = .ok (.getfield 58, 3) := by decide +kernel
theorem w120 {Z a0} (hw : HW a0 Z) : ((Jvm.Cond.fieldLink "com/example/montaje/montaje/beans/BeanDefinition" (58 : Nat) "com/example/montaje/montaje/beans/BeanDefinition" "scope" "Ljava/lang/String;") : Jvm.Cond).before a0 Z = true := hw _ (List.mem_of_getElem? (i := 120) rfl)
theorem d16_4 : decode prog_4_method_8_code 4 = .ok (.ifnonnull 8, 3) := by decide +kernel
theorem d16_7 : decode prog_4_method_8_code 7 = .ok (.ldc 61, 2) := by decide +kernel
theorem w122 {Z a0} (hw : HW a0 Z) : ((Jvm.Cond.stringLink "com/example/montaje/montaje/beans/BeanDefinition" (61 : Nat) "singleton") : Jvm.Cond).before a0 Z = true := hw _ (List.mem_of_getElem? (i := 122) rfl)
theorem d16_9 : decode prog_4_method_8_code 9 = .ok (.goto 7, 3) := by decide +kernel
theorem d16_16 : decode prog_4_method_8_code 16 = .ok (.areturn, 1) := by decide +kernel
theorem c21_getScope {Z a0} (hw : HW a0 Z) (hs : SF Z) {p1 p2 p3 p4 p5 p6 : Addr} {x1 : Int32} (hx1 : -128 ≤ x1.toInt ∧ x1.toInt ≤ 127) {x2 : Int32} (hx2 : -128 ≤ x2.toInt ∧ x2.toInt ≤ 127) {u1 : Value} (hu1 : u1.isRef = true) {w_p1 : Bool} {F : List Ent} (mp1 : (p1, w_p1, oBeanDefinition (vr (g1 Z)) (vr p2) (vr p3) (vr p4) u1 (vr p5) .null) ∈ F) : Con Z EL (⟨"com/example/montaje/montaje/beans/BeanDefinition", "getScope", "()Ljava/lang/String;"⟩ : MethodName) prog_4_method_8_code 1 (Option.some (Jvm.ClassFile.FieldType.object "java/lang/String")) (rmm 0 2 40 0) [(vr p1)] (F) (fun v D' => (∃ a1 a2 : Addr, v = some (vr a1) ∧ (a1, false, oString (vr a2) (vi 0)) :: (a2, false, ar "" .byte [(vi 115), (vi 105), (vi 110), (vi 103), (vi 108), (vi 101), (vi 116), (vi 111), (vi 110)]) :: F = D')) := by
  refine Con.of (ls := #[rv p1]) (by decide +kernel) rfl ?_
  show W Z EL _ "com/example/montaje/montaje/beans/BeanDefinition" "getScope" _ _ _ _ _ _ _ _ _ _
  refine W.aloadN (pc := 0) d16_0 rfl rfl ?_
  refine W.getf (pc := 1) d16_1 (w120 hw) Via.refl mp1 m6 ?_
  refine W.ifnonnullN (pc := 4) d16_4 ?_
  refine W.ldcT (pc := 7) 36 (vs := [(vi 115), (vi 105), (vi 110), (vi 103), (vi 108), (vi 101), (vi 116), (vi 111), (vi 110)]) rfl d16_7 (w122 hw) (wS hw) m1 tx_73696e676c65746f6e (by decide) (by decide) (by decide) (fun a1 a2 => ?_)
  show W _ _ _ _ _ _ _ _ _ _ _ _ 9 _ [(vr a1)]
  refine W.goto (pc := 9) 16 d16_9 (by decide) ?_
  exact W.areturn (pc := 16) d16_16 rfl rfl rfl (by decide) ⟨a1, a2, rfl, rfl⟩
theorem q2147483647 : (2147483647 : Int32).toInt = 2147483647 := by decide
theorem am_2147483647 (x : Int32) : (x &&& (2147483647 : Int32)).toInt = x.toInt % 2147483648 := a_and x 2147483647 31 2147483648 (by decide) (by decide) (by decide)
theorem q3 : (3 : Int32).toInt = 3 := by decide
theorem arem_3 (x : Int32) : (0 ≤ x.toInt → (x % (3 : Int32)).toInt = x.toInt % 3) ∧ (x.toInt < 0 → (x % (3 : Int32)).toInt = -((-x.toInt) % 3)) := a_rem x 3 3 (by decide) (by decide)
theorem q2 : (2 : Int32).toInt = 2 := by decide
theorem pd__Ljava_lang_String_ : parseMethodDescriptor "()Ljava/lang/String;" = some ⟨[], some (.object "java/lang/String")⟩ := by decide +kernel
theorem w115 {Z a0} (hw : HW a0 Z) : ((Jvm.Cond.methodLink "com/example/montaje/montaje/beans/BeanDefinitionGetScopePinLaw" (26 : Nat) ({ cls := "com/example/montaje/montaje/beans/BeanDefinition", name := "getScope", desc := "()Ljava/lang/String;" } : Jvm.MethodName)) : Jvm.Cond).before a0 Z = true := hw _ (List.mem_of_getElem? (i := 115) rfl)
theorem w116 {Z a0} (hw : HW a0 Z) : ((Jvm.Cond.declares ({ cls := "com/example/montaje/montaje/beans/BeanDefinition", name := "getScope", desc := "()Ljava/lang/String;" } : Jvm.MethodName)) : Jvm.Cond).before a0 Z = true := hw _ (List.mem_of_getElem? (i := 116) rfl)
theorem w118 {Z a0} (hw : HW a0 Z) : ((Jvm.Cond.selects "com/example/montaje/montaje/beans/BeanDefinition" ({ cls := "com/example/montaje/montaje/beans/BeanDefinition", name := "getScope", desc := "()Ljava/lang/String;" } : Jvm.MethodName) ({ cls := "com/example/montaje/montaje/beans/BeanDefinition", name := "getScope", desc := "()Ljava/lang/String;" } : Jvm.MethodName)) : Jvm.Cond).before a0 Z = true := hw _ (List.mem_of_getElem? (i := 118) rfl)
theorem w117 {Z a0} (hw : HW a0 Z) : ((Jvm.Cond.instanceMethod ({ cls := "com/example/montaje/montaje/beans/BeanDefinition", name := "getScope", desc := "()Ljava/lang/String;" } : Jvm.MethodName)) : Jvm.Cond).before a0 Z = true := hw _ (List.mem_of_getElem? (i := 117) rfl)
theorem w119 {Z a0} (hw : HW a0 Z) : ((Jvm.Cond.code ({ cls := "com/example/montaje/montaje/beans/BeanDefinition", name := "getScope", desc := "()Ljava/lang/String;" } : Jvm.MethodName) prog_4_method_8_code (1 : Nat) (Option.some (Jvm.ClassFile.FieldType.object "java/lang/String"))) : Jvm.Cond).before a0 Z = true := hw _ (List.mem_of_getElem? (i := 119) rfl)
theorem d17_0 : decode jdk_42_method_66_code 0 = .ok (.aload_n 0, 1) := by decide +kernel
theorem d17_1 : decode jdk_42_method_66_code 1 = .ok (.aload_n 1, 1) := by decide +kernel
theorem d17_2 : decode jdk_42_method_66_code 2 = .ok (.if_acmp .ne 5, 3) := by decide +kernel
theorem d17_7 : decode jdk_42_method_66_code 7 = .ok (.aload_n 1, 1) := by decide +kernel
theorem d17_8 : decode jdk_42_method_66_code 8 = .ok (.instanceof 10, 3) := by decide +kernel
theorem w142 {Z a0} (hw : HW a0 Z) : ((Jvm.Cond.classLink "java/lang/String" (10 : Nat) "java/lang/String") : Jvm.Cond).before a0 Z = true := hw _ (List.mem_of_getElem? (i := 142) rfl)
theorem d17_11 : decode jdk_42_method_66_code 11 = .ok (.ifCond .eq 43, 3) := by decide +kernel
theorem d17_14 : decode jdk_42_method_66_code 14 = .ok (.aload_n 1, 1) := by decide +kernel
theorem d17_15 : decode jdk_42_method_66_code 15 = .ok (.checkcast 10, 3) := by decide +kernel
theorem d17_18 : decode jdk_42_method_66_code 18 = .ok (.astore_n 2, 1) := by decide +kernel
theorem d17_19 : decode jdk_42_method_66_code 19 = .ok (.getstatic 38, 3) := by decide +kernel
theorem d17_22 : decode jdk_42_method_66_code 22 = .ok (.ifCond .eq 14, 3) := by decide +kernel
theorem d17_25 : decode jdk_42_method_66_code 25 = .ok (.aload_n 0, 1) := by decide +kernel
theorem d17_26 : decode jdk_42_method_66_code 26 = .ok (.getfield 15, 3) := by decide +kernel
theorem d17_29 : decode jdk_42_method_66_code 29 = .ok (.aload_n 2, 1) := by decide +kernel
theorem d17_30 : decode jdk_42_method_66_code 30 = .ok (.getfield 15, 3) := by decide +kernel
theorem d17_33 : decode jdk_42_method_66_code 33 = .ok (.if_icmp .ne 21, 3) := by decide +kernel
theorem d17_36 : decode jdk_42_method_66_code 36 = .ok (.aload_n 0, 1) := by decide +kernel
theorem d17_37 : decode jdk_42_method_66_code 37 = .ok (.getfield 9, 3) := by decide +kernel
theorem d17_40 : decode jdk_42_method_66_code 40 = .ok (.aload_n 2, 1) := by decide +kernel
theorem d17_41 : decode jdk_42_method_66_code 41 = .ok (.getfield 9, 3) := by decide +kernel
theorem d17_44 : decode jdk_42_method_66_code 44 = .ok (.invokestatic 541, 3) := by decide +kernel
theorem d20_0 : decode jdk_43_method_13_code 0 = .ok (.aload_n 0, 1) := by decide +kernel
theorem d20_1 : decode jdk_43_method_13_code 1 = .ok (.arraylength, 1) := by decide +kernel
theorem d20_2 : decode jdk_43_method_13_code 2 = .ok (.aload_n 1, 1) := by decide +kernel
theorem d20_3 : decode jdk_43_method_13_code 3 = .ok (.arraylength, 1) := by decide +kernel
theorem d20_4 : decode jdk_43_method_13_code 4 = .ok (.if_icmp .ne 30, 3) := by decide +kernel
theorem d20_7 : decode jdk_43_method_13_code 7 = .ok (.iconst 0, 1) := by decide +kernel
theorem d20_8 : decode jdk_43_method_13_code 8 = .ok (.istore_n 2, 1) := by decide +kernel
theorem d20_9 : decode jdk_43_method_13_code 9 = .ok (.iload_n 2, 1) := by decide +kernel
theorem d20_10 : decode jdk_43_method_13_code 10 = .ok (.aload_n 0, 1) := by decide +kernel
theorem d20_11 : decode jdk_43_method_13_code 11 = .ok (.arraylength, 1) := by decide +kernel
theorem d20_12 : decode jdk_43_method_13_code 12 = .ok (.if_icmp .ge 20, 3) := by decide +kernel
theorem d20_15 : decode jdk_43_method_13_code 15 = .ok (.aload_n 0, 1) := by decide +kernel
theorem d20_16 : decode jdk_43_method_13_code 16 = .ok (.iload_n 2, 1) := by decide +kernel
theorem d20_17 : decode jdk_43_method_13_code 17 = .ok (.baload, 1) := by decide +kernel
theorem d20_18 : decode jdk_43_method_13_code 18 = .ok (.aload_n 1, 1) := by decide +kernel
theorem d20_19 : decode jdk_43_method_13_code 19 = .ok (.iload_n 2, 1) := by decide +kernel
theorem d20_20 : decode jdk_43_method_13_code 20 = .ok (.baload, 1) := by decide +kernel
theorem d20_21 : decode jdk_43_method_13_code 21 = .ok (.if_icmp .eq 5, 3) := by decide +kernel
theorem d20_26 : decode jdk_43_method_13_code 26 = .ok (.iinc 2 1, 3) := by decide +kernel
theorem d20_29 : decode jdk_43_method_13_code 29 = .ok (.goto (-20), 3) := by decide +kernel
theorem ix3 : Idx (3 : Int32) 3 := by unfold Idx; decide
theorem ix4 : Idx (4 : Int32) 4 := by unfold Idx; decide
theorem ix5 : Idx (5 : Int32) 5 := by unfold Idx; decide
theorem ix6 : Idx (6 : Int32) 6 := by unfold Idx; decide
theorem ix7 : Idx (7 : Int32) 7 := by unfold Idx; decide
theorem ix8 : Idx (8 : Int32) 8 := by unfold Idx; decide
theorem d20_32 : decode jdk_43_method_13_code 32 = .ok (.iconst 1, 1) := by decide +kernel
theorem d20_33 : decode jdk_43_method_13_code 33 = .ok (.ireturn, 1) := by decide +kernel
theorem c23_equals {Z a0} (hw : HW a0 Z) (hs : SF Z) {p1 p2 : Addr} {w_p1 : Bool} {ad_p1 : String} {w_p2 : Bool} {ad_p2 : String} {F : List Ent} (mp1 : (p1, w_p1, ar ad_p1 .byte [(vi 115), (vi 105), (vi 110), (vi 103), (vi 108), (vi 101), (vi 116), (vi 111), (vi 110)]) ∈ F) (mp2 : (p2, w_p2, ar ad_p2 .byte [(vi 115), (vi 105), (vi 110), (vi 103), (vi 108), (vi 101), (vi 116), (vi 111), (vi 110)]) ∈ F) : Con Z EL (⟨"java/lang/StringLatin1", "equals", "([B[B)Z"⟩ : MethodName) jdk_43_method_13_code 3 (Option.some Jvm.ClassFile.FieldType.boolean) (rmm 0 0 0 0) [(vr p1), (vr p2)] (F) (fun v D' => (v = some (vi 1) ∧ F = D')) := by
  refine Con.of (ls := #[rv p1, rv p2, uu]) (by decide +kernel) rfl ?_
  show W Z EL _ "java/lang/StringLatin1" "equals" _ _ _ _ _ _ _ _ _ _
  refine W.aloadN (pc := 0) d20_0 rfl rfl ?_
  refine W.alen (pc := 1) (9) d20_1 mp1 rfl ?_
  refine W.aloadN (pc := 2) d20_2 rfl rfl ?_
  refine W.alen (pc := 3) (9) d20_3 mp2 rfl ?_
  refine W.icmpN (pc := 4) d20_4 (n_ne (by decide)) ?_
  refine W.iconst (pc := 7) (0) d20_7 (by decide) ?_
  refine W.istoreN (pc := 8) (ls' := #[rv p1, rv p2, iv 0]) d20_8 rfl ?_
  refine W.iloadN (pc := 9) d20_9 rfl ?_
  refine W.aloadN (pc := 10) d20_10 rfl rfl ?_
  refine W.alen (pc := 11) (9) d20_11 mp1 rfl ?_
  refine W.icmpN (pc := 12) d20_12 (n_ge (by decide)) ?_
  refine W.aloadN (pc := 15) d20_15 rfl rfl ?_
  refine W.iloadN (pc := 16) d20_16 rfl ?_
  refine W.baload (pc := 17) 0 d20_17 mp1 ix0 rfl ?_
  refine W.aloadN (pc := 18) d20_18 rfl rfl ?_
  refine W.iloadN (pc := 19) d20_19 rfl ?_
  refine W.baload (pc := 20) 0 d20_20 mp2 ix0 rfl ?_
  refine W.icmpY (pc := 21) 26 d20_21 (y_eq (by decide)) (by decide) ?_
  refine W.iincK (pc := 26) (ls' := #[rv p1, rv p2, iv 1]) (1) (1 : Int32) d20_26 (by decide) rfl (by decide) rfl ?_
  refine W.goto (pc := 29) 9 d20_29 (by decide) ?_
  refine W.iloadN (pc := 9) d20_9 rfl ?_
  refine W.aloadN (pc := 10) d20_10 rfl rfl ?_
  refine W.alen (pc := 11) (9) d20_11 mp1 rfl ?_
  refine W.icmpN (pc := 12) d20_12 (n_ge (by decide)) ?_
  refine W.aloadN (pc := 15) d20_15 rfl rfl ?_
  refine W.iloadN (pc := 16) d20_16 rfl ?_
  refine W.baload (pc := 17) 1 d20_17 mp1 ix1 rfl ?_
  refine W.aloadN (pc := 18) d20_18 rfl rfl ?_
  refine W.iloadN (pc := 19) d20_19 rfl ?_
  refine W.baload (pc := 20) 1 d20_20 mp2 ix1 rfl ?_
  refine W.icmpY (pc := 21) 26 d20_21 (y_eq (by decide)) (by decide) ?_
  refine W.iincK (pc := 26) (ls' := #[rv p1, rv p2, iv 2]) (1) (2 : Int32) d20_26 (by decide) rfl (by decide) rfl ?_
  refine W.goto (pc := 29) 9 d20_29 (by decide) ?_
  refine W.iloadN (pc := 9) d20_9 rfl ?_
  refine W.aloadN (pc := 10) d20_10 rfl rfl ?_
  refine W.alen (pc := 11) (9) d20_11 mp1 rfl ?_
  refine W.icmpN (pc := 12) d20_12 (n_ge (by decide)) ?_
  refine W.aloadN (pc := 15) d20_15 rfl rfl ?_
  refine W.iloadN (pc := 16) d20_16 rfl ?_
  refine W.baload (pc := 17) 2 d20_17 mp1 ix2 rfl ?_
  refine W.aloadN (pc := 18) d20_18 rfl rfl ?_
  refine W.iloadN (pc := 19) d20_19 rfl ?_
  refine W.baload (pc := 20) 2 d20_20 mp2 ix2 rfl ?_
  refine W.icmpY (pc := 21) 26 d20_21 (y_eq (by decide)) (by decide) ?_
  refine W.iincK (pc := 26) (ls' := #[rv p1, rv p2, iv 3]) (1) (3 : Int32) d20_26 (by decide) rfl (by decide) rfl ?_
  refine W.goto (pc := 29) 9 d20_29 (by decide) ?_
  refine W.iloadN (pc := 9) d20_9 rfl ?_
  refine W.aloadN (pc := 10) d20_10 rfl rfl ?_
  refine W.alen (pc := 11) (9) d20_11 mp1 rfl ?_
  refine W.icmpN (pc := 12) d20_12 (n_ge (by decide)) ?_
  refine W.aloadN (pc := 15) d20_15 rfl rfl ?_
  refine W.iloadN (pc := 16) d20_16 rfl ?_
  refine W.baload (pc := 17) 3 d20_17 mp1 ix3 rfl ?_
  refine W.aloadN (pc := 18) d20_18 rfl rfl ?_
  refine W.iloadN (pc := 19) d20_19 rfl ?_
  refine W.baload (pc := 20) 3 d20_20 mp2 ix3 rfl ?_
  refine W.icmpY (pc := 21) 26 d20_21 (y_eq (by decide)) (by decide) ?_
  refine W.iincK (pc := 26) (ls' := #[rv p1, rv p2, iv 4]) (1) (4 : Int32) d20_26 (by decide) rfl (by decide) rfl ?_
  refine W.goto (pc := 29) 9 d20_29 (by decide) ?_
  refine W.iloadN (pc := 9) d20_9 rfl ?_
  refine W.aloadN (pc := 10) d20_10 rfl rfl ?_
  refine W.alen (pc := 11) (9) d20_11 mp1 rfl ?_
  refine W.icmpN (pc := 12) d20_12 (n_ge (by decide)) ?_
  refine W.aloadN (pc := 15) d20_15 rfl rfl ?_
  refine W.iloadN (pc := 16) d20_16 rfl ?_
  refine W.baload (pc := 17) 4 d20_17 mp1 ix4 rfl ?_
  refine W.aloadN (pc := 18) d20_18 rfl rfl ?_
  refine W.iloadN (pc := 19) d20_19 rfl ?_
  refine W.baload (pc := 20) 4 d20_20 mp2 ix4 rfl ?_
  refine W.icmpY (pc := 21) 26 d20_21 (y_eq (by decide)) (by decide) ?_
  refine W.iincK (pc := 26) (ls' := #[rv p1, rv p2, iv 5]) (1) (5 : Int32) d20_26 (by decide) rfl (by decide) rfl ?_
  refine W.goto (pc := 29) 9 d20_29 (by decide) ?_
  refine W.iloadN (pc := 9) d20_9 rfl ?_
  refine W.aloadN (pc := 10) d20_10 rfl rfl ?_
  refine W.alen (pc := 11) (9) d20_11 mp1 rfl ?_
  refine W.icmpN (pc := 12) d20_12 (n_ge (by decide)) ?_
  refine W.aloadN (pc := 15) d20_15 rfl rfl ?_
  refine W.iloadN (pc := 16) d20_16 rfl ?_
  refine W.baload (pc := 17) 5 d20_17 mp1 ix5 rfl ?_
  refine W.aloadN (pc := 18) d20_18 rfl rfl ?_
  refine W.iloadN (pc := 19) d20_19 rfl ?_
  refine W.baload (pc := 20) 5 d20_20 mp2 ix5 rfl ?_
  refine W.icmpY (pc := 21) 26 d20_21 (y_eq (by decide)) (by decide) ?_
  refine W.iincK (pc := 26) (ls' := #[rv p1, rv p2, iv 6]) (1) (6 : Int32) d20_26 (by decide) rfl (by decide) rfl ?_
  refine W.goto (pc := 29) 9 d20_29 (by decide) ?_
  refine W.iloadN (pc := 9) d20_9 rfl ?_
  refine W.aloadN (pc := 10) d20_10 rfl rfl ?_
  refine W.alen (pc := 11) (9) d20_11 mp1 rfl ?_
  refine W.icmpN (pc := 12) d20_12 (n_ge (by decide)) ?_
  refine W.aloadN (pc := 15) d20_15 rfl rfl ?_
  refine W.iloadN (pc := 16) d20_16 rfl ?_
  refine W.baload (pc := 17) 6 d20_17 mp1 ix6 rfl ?_
  refine W.aloadN (pc := 18) d20_18 rfl rfl ?_
  refine W.iloadN (pc := 19) d20_19 rfl ?_
  refine W.baload (pc := 20) 6 d20_20 mp2 ix6 rfl ?_
  refine W.icmpY (pc := 21) 26 d20_21 (y_eq (by decide)) (by decide) ?_
  refine W.iincK (pc := 26) (ls' := #[rv p1, rv p2, iv 7]) (1) (7 : Int32) d20_26 (by decide) rfl (by decide) rfl ?_
  refine W.goto (pc := 29) 9 d20_29 (by decide) ?_
  refine W.iloadN (pc := 9) d20_9 rfl ?_
  refine W.aloadN (pc := 10) d20_10 rfl rfl ?_
  refine W.alen (pc := 11) (9) d20_11 mp1 rfl ?_
  refine W.icmpN (pc := 12) d20_12 (n_ge (by decide)) ?_
  refine W.aloadN (pc := 15) d20_15 rfl rfl ?_
  refine W.iloadN (pc := 16) d20_16 rfl ?_
  refine W.baload (pc := 17) 7 d20_17 mp1 ix7 rfl ?_
  refine W.aloadN (pc := 18) d20_18 rfl rfl ?_
  refine W.iloadN (pc := 19) d20_19 rfl ?_
  refine W.baload (pc := 20) 7 d20_20 mp2 ix7 rfl ?_
  refine W.icmpY (pc := 21) 26 d20_21 (y_eq (by decide)) (by decide) ?_
  refine W.iincK (pc := 26) (ls' := #[rv p1, rv p2, iv 8]) (1) (8 : Int32) d20_26 (by decide) rfl (by decide) rfl ?_
  refine W.goto (pc := 29) 9 d20_29 (by decide) ?_
  refine W.iloadN (pc := 9) d20_9 rfl ?_
  refine W.aloadN (pc := 10) d20_10 rfl rfl ?_
  refine W.alen (pc := 11) (9) d20_11 mp1 rfl ?_
  refine W.icmpN (pc := 12) d20_12 (n_ge (by decide)) ?_
  refine W.aloadN (pc := 15) d20_15 rfl rfl ?_
  refine W.iloadN (pc := 16) d20_16 rfl ?_
  refine W.baload (pc := 17) 8 d20_17 mp1 ix8 rfl ?_
  refine W.aloadN (pc := 18) d20_18 rfl rfl ?_
  refine W.iloadN (pc := 19) d20_19 rfl ?_
  refine W.baload (pc := 20) 8 d20_20 mp2 ix8 rfl ?_
  refine W.icmpY (pc := 21) 26 d20_21 (y_eq (by decide)) (by decide) ?_
  refine W.iincK (pc := 26) (ls' := #[rv p1, rv p2, iv 9]) (1) (9 : Int32) d20_26 (by decide) rfl (by decide) rfl ?_
  refine W.goto (pc := 29) 9 d20_29 (by decide) ?_
  refine W.iloadN (pc := 9) d20_9 rfl ?_
  refine W.aloadN (pc := 10) d20_10 rfl rfl ?_
  refine W.alen (pc := 11) (9) d20_11 mp1 rfl ?_
  refine W.icmpY (pc := 12) 32 d20_12 (y_ge (by decide)) (by decide) ?_
  refine W.iconst (pc := 32) (1) d20_32 (by decide) ?_
  exact W.ireturn (pc := 33) d20_33 rfl (Or.inr (Or.inl rfl)) (nw_bool (by decide)) (by decide) ⟨rfl, rfl⟩
theorem pd__B_B_Z : parseMethodDescriptor "([B[B)Z" = some ⟨[(.array .byte), (.array .byte)], some .boolean⟩ := by decide +kernel
theorem w143 {Z a0} (hw : HW a0 Z) : ((Jvm.Cond.methodLink "java/lang/String" (541 : Nat) ({ cls := "java/lang/StringLatin1", name := "equals", desc := "([B[B)Z" } : Jvm.MethodName)) : Jvm.Cond).before a0 Z = true := hw _ (List.mem_of_getElem? (i := 143) rfl)
theorem w144 {Z a0} (hw : HW a0 Z) : ((Jvm.Cond.static ({ cls := "java/lang/StringLatin1", name := "equals", desc := "([B[B)Z" } : Jvm.MethodName)) : Jvm.Cond).before a0 Z = true := hw _ (List.mem_of_getElem? (i := 144) rfl)
theorem w145 {Z a0} (hw : HW a0 Z) : ((Jvm.Cond.initialized "java/lang/StringLatin1") : Jvm.Cond).before a0 Z = true := hw _ (List.mem_of_getElem? (i := 145) rfl)
theorem w146 {Z a0} (hw : HW a0 Z) : ((Jvm.Cond.code ({ cls := "java/lang/StringLatin1", name := "equals", desc := "([B[B)Z" } : Jvm.MethodName) jdk_43_method_13_code (3 : Nat) (Option.some Jvm.ClassFile.FieldType.boolean)) : Jvm.Cond).before a0 Z = true := hw _ (List.mem_of_getElem? (i := 146) rfl)
theorem d17_47 : decode jdk_42_method_66_code 47 = .ok (.ifCond .eq 7, 3) := by decide +kernel
theorem d17_50 : decode jdk_42_method_66_code 50 = .ok (.iconst 1, 1) := by decide +kernel
theorem d17_51 : decode jdk_42_method_66_code 51 = .ok (.goto 4, 3) := by decide +kernel
theorem d17_55 : decode jdk_42_method_66_code 55 = .ok (.ireturn, 1) := by decide +kernel
theorem d17_5 : decode jdk_42_method_66_code 5 = .ok (.iconst 1, 1) := by decide +kernel
theorem d17_6 : decode jdk_42_method_66_code 6 = .ok (.ireturn, 1) := by decide +kernel
theorem c22_equals {Z a0} (hw : HW a0 Z) (hs : SF Z) {p1 p2 p3 p4 : Addr} {w_p2 : Bool} {w_p1 : Bool} {w_p3 : Bool} {ad_p3 : String} {w_p4 : Bool} {ad_p4 : String} {F : List Ent} (mp2 : (p2, w_p2, oString (vr p4) (vi 0)) ∈ F) (mp1 : (p1, w_p1, oString (vr p3) (vi 0)) ∈ F) (mp3 : (p3, w_p3, ar ad_p3 .byte [(vi 115), (vi 105), (vi 110), (vi 103), (vi 108), (vi 101), (vi 116), (vi 111), (vi 110)]) ∈ F) (mp4 : (p4, w_p4, ar ad_p4 .byte [(vi 115), (vi 105), (vi 110), (vi 103), (vi 108), (vi 101), (vi 116), (vi 111), (vi 110)]) ∈ F) : Con Z EL (⟨"java/lang/String", "equals", "(Ljava/lang/Object;)Z"⟩ : MethodName) jdk_42_method_66_code 3 (Option.some Jvm.ClassFile.FieldType.boolean) (rmm 1 0 0 14) [(vr p1), (vr p2)] (F) (fun v D' => (v = some (vi 1) ∧ F = D')) := by
  refine Con.of (ls := #[rv p1, rv p2, uu]) (by decide +kernel) rfl ?_
  show W Z EL _ "java/lang/String" "equals" _ _ _ _ _ _ _ _ _ _
  refine W.aloadN (pc := 0) d17_0 rfl rfl ?_
  refine W.aloadN (pc := 1) d17_1 rfl rfl ?_
  refine W.acmp (pc := 2) 7 d17_2 rfl rfl (by decide) (fun h1 => ?_) (fun h1 => ?_)
  ·
   have nh1 : p1 ≠ p2 := fun z => h1 (by rw [z])
   refine W.aloadN (pc := 7) d17_7 rfl rfl ?_
   refine W.instY (pc := 8) d17_8 (w142 hw) (Hp.ins mp2) ?_
   refine W.ifN (pc := 11) d17_11 (n_eq (by decide)) ?_
   refine W.aloadN (pc := 14) d17_14 rfl rfl ?_
   refine W.castY (pc := 15) d17_15 (w142 hw) (Hp.ins mp2) ?_
   refine W.astoreN (pc := 18) (ls' := #[rv p1, rv p2, rv p2]) d17_18 rfl rfl ?_
   refine W.gets (pc := 19) d17_19 (w14 hw) Via.refl hs.1 ?_
   refine W.ifN (pc := 22) d17_22 (n_eq (by have := hs.2.1; have := q0; omega)) ?_
   refine W.aloadN (pc := 25) d17_25 rfl rfl ?_
   refine W.getf (pc := 26) d17_26 (w26 hw) Via.refl mp1 m1 ?_
   refine W.aloadN (pc := 29) d17_29 rfl rfl ?_
   refine W.getf (pc := 30) d17_30 (w26 hw) Via.refl mp2 m1 ?_
   refine W.icmpN (pc := 33) d17_33 (n_ne (by decide)) ?_
   refine W.aloadN (pc := 36) d17_36 rfl rfl ?_
   refine W.getf (pc := 37) d17_37 (w28 hw) Via.refl mp1 m0 ?_
   refine W.aloadN (pc := 40) d17_40 rfl rfl ?_
   refine W.getf (pc := 41) d17_41 (w28 hw) Via.refl mp2 m0 ?_
   refine W.callS (pc := 44) (as := [(vr p3), (vr p4)]) 0 [] d17_44 (w143 hw) (w144 hw) (w145 hw) (w146 hw) (c23_equals hw hs (p1 := p3) (p2 := p4) (mp1 := mp3) (mp2 := mp4)) (by decide) pd__B_B_Z rfl rfl rfl rfl (by decide) (fun v D' h => ?_)
   obtain ⟨rfl, rfl⟩ := h
   show W _ _ _ _ _ _ _ _ _ _ _ _ 47 _ [(vi 1)]
   refine W.ifN (pc := 47) d17_47 (n_eq (by decide)) ?_
   refine W.iconst (pc := 50) (1) d17_50 (by decide) ?_
   refine W.goto (pc := 51) 55 d17_51 (by decide) ?_
   exact W.ireturn (pc := 55) d17_55 rfl (Or.inr (Or.inl rfl)) (nw_bool (by decide)) (by decide) ⟨rfl, rfl⟩
  ·
   refine W.iconst (pc := 5) (1) d17_5 (by decide) ?_
   exact W.ireturn (pc := 6) d17_6 rfl (Or.inr (Or.inl rfl)) (nw_bool (by decide)) (by decide) ⟨rfl, rfl⟩
theorem pd_Ljava_lang_Object__Z : parseMethodDescriptor "(Ljava/lang/Object;)Z" = some ⟨[(.object "java/lang/Object")], some .boolean⟩ := by decide +kernel
theorem w123 {Z a0} (hw : HW a0 Z) : ((Jvm.Cond.methodLink "com/example/montaje/montaje/beans/BeanDefinitionGetScopePinLaw" (30 : Nat) ({ cls := "java/lang/String", name := "equals", desc := "(Ljava/lang/Object;)Z" } : Jvm.MethodName)) : Jvm.Cond).before a0 Z = true := hw _ (List.mem_of_getElem? (i := 123) rfl)
theorem w124 {Z a0} (hw : HW a0 Z) : ((Jvm.Cond.declares ({ cls := "java/lang/String", name := "equals", desc := "(Ljava/lang/Object;)Z" } : Jvm.MethodName)) : Jvm.Cond).before a0 Z = true := hw _ (List.mem_of_getElem? (i := 124) rfl)
theorem w126 {Z a0} (hw : HW a0 Z) : ((Jvm.Cond.selects "java/lang/String" ({ cls := "java/lang/String", name := "equals", desc := "(Ljava/lang/Object;)Z" } : Jvm.MethodName) ({ cls := "java/lang/String", name := "equals", desc := "(Ljava/lang/Object;)Z" } : Jvm.MethodName)) : Jvm.Cond).before a0 Z = true := hw _ (List.mem_of_getElem? (i := 126) rfl)
theorem w125 {Z a0} (hw : HW a0 Z) : ((Jvm.Cond.instanceMethod ({ cls := "java/lang/String", name := "equals", desc := "(Ljava/lang/Object;)Z" } : Jvm.MethodName)) : Jvm.Cond).before a0 Z = true := hw _ (List.mem_of_getElem? (i := 125) rfl)
theorem w127 {Z a0} (hw : HW a0 Z) : ((Jvm.Cond.code ({ cls := "java/lang/String", name := "equals", desc := "(Ljava/lang/Object;)Z" } : Jvm.MethodName) jdk_42_method_66_code (3 : Nat) (Option.some Jvm.ClassFile.FieldType.boolean)) : Jvm.Cond).before a0 Z = true := hw _ (List.mem_of_getElem? (i := 127) rfl)
theorem d18_0 : decode prog_4_method_30_code 0 = .ok (.aload_n 0, 1) := by decide +kernel
theorem d18_1 : decode prog_4_method_30_code 1 = .ok (.invokevirtual 125, 3) := by decide +kernel
theorem w133 {Z a0} (hw : HW a0 Z) : ((Jvm.Cond.methodLink "com/example/montaje/montaje/beans/BeanDefinition" (125 : Nat) ({ cls := "com/example/montaje/montaje/beans/BeanDefinition", name := "getScope", desc := "()Ljava/lang/String;" } : Jvm.MethodName)) : Jvm.Cond).before a0 Z = true := hw _ (List.mem_of_getElem? (i := 133) rfl)
theorem d18_4 : decode prog_4_method_30_code 4 = .ok (.ldc 61, 2) := by decide +kernel
theorem d18_6 : decode prog_4_method_30_code 6 = .ok (.invokevirtual 64, 3) := by decide +kernel
theorem w134 {Z a0} (hw : HW a0 Z) : ((Jvm.Cond.methodLink "com/example/montaje/montaje/beans/BeanDefinition" (64 : Nat) ({ cls := "java/lang/String", name := "equals", desc := "(Ljava/lang/Object;)Z" } : Jvm.MethodName)) : Jvm.Cond).before a0 Z = true := hw _ (List.mem_of_getElem? (i := 134) rfl)
theorem d18_9 : decode prog_4_method_30_code 9 = .ok (.ireturn, 1) := by decide +kernel
theorem c25_getScope {Z a0} (hw : HW a0 Z) (hs : SF Z) {p1 p2 p3 p4 p5 : Addr} {u1 : Value} (hu1 : u1.isRef = true) {w_p1 : Bool} {F : List Ent} (mp1 : (p1, w_p1, oBeanDefinition (vr (g1 Z)) (vr p2) (vr p3) (vr p4) u1 (vr p5) .null) ∈ F) : Con Z EL (⟨"com/example/montaje/montaje/beans/BeanDefinition", "getScope", "()Ljava/lang/String;"⟩ : MethodName) prog_4_method_8_code 1 (Option.some (Jvm.ClassFile.FieldType.object "java/lang/String")) (rmm 0 2 40 0) [(vr p1)] (F) (fun v D' => (∃ a1 a2 : Addr, v = some (vr a1) ∧ (a1, false, oString (vr a2) (vi 0)) :: (a2, false, ar "" .byte [(vi 115), (vi 105), (vi 110), (vi 103), (vi 108), (vi 101), (vi 116), (vi 111), (vi 110)]) :: F = D')) := by
  refine Con.of (ls := #[rv p1]) (by decide +kernel) rfl ?_
  show W Z EL _ "com/example/montaje/montaje/beans/BeanDefinition" "getScope" _ _ _ _ _ _ _ _ _ _
  refine W.aloadN (pc := 0) d16_0 rfl rfl ?_
  refine W.getf (pc := 1) d16_1 (w120 hw) Via.refl mp1 m6 ?_
  refine W.ifnonnullN (pc := 4) d16_4 ?_
  refine W.ldcT (pc := 7) 36 (vs := [(vi 115), (vi 105), (vi 110), (vi 103), (vi 108), (vi 101), (vi 116), (vi 111), (vi 110)]) rfl d16_7 (w122 hw) (wS hw) m1 tx_73696e676c65746f6e (by decide) (by decide) (by decide) (fun a1 a2 => ?_)
  show W _ _ _ _ _ _ _ _ _ _ _ _ 9 _ [(vr a1)]
  refine W.goto (pc := 9) 16 d16_9 (by decide) ?_
  exact W.areturn (pc := 16) d16_16 rfl rfl rfl (by decide) ⟨a1, a2, rfl, rfl⟩
theorem c24_isSingleton {Z a0} (hw : HW a0 Z) (hs : SF Z) {p1 p2 p3 p4 p5 p6 : Addr} {x1 : Int32} (hx1 : -128 ≤ x1.toInt ∧ x1.toInt ≤ 127) {x2 : Int32} (hx2 : -128 ≤ x2.toInt ∧ x2.toInt ≤ 127) {u1 : Value} (hu1 : u1.isRef = true) {w_p1 : Bool} {F : List Ent} (mp1 : (p1, w_p1, oBeanDefinition (vr (g1 Z)) (vr p2) (vr p3) (vr p4) u1 (vr p5) .null) ∈ F) : Con Z EL (⟨"com/example/montaje/montaje/beans/BeanDefinition", "isSingleton", "()Z"⟩ : MethodName) prog_4_method_30_code 1 (Option.some Jvm.ClassFile.FieldType.boolean) (rmm 2 4 80 28) [(vr p1)] (F) (fun v D' => (v = some (vi 1) ∧ F = D')) := by
  refine Con.of (ls := #[rv p1]) (by decide +kernel) rfl ?_
  show W Z EL _ "com/example/montaje/montaje/beans/BeanDefinition" "isSingleton" _ _ _ _ _ _ _ _ _ _
  refine W.aloadN (pc := 0) d18_0 rfl rfl ?_
  refine W.callV (pc := 1) (as := []) 0 [] d18_1 (w133 hw) (w116 hw) (w118 hw) (w118 hw) (w117 hw) (w32 hw) (w119 hw) (Hp.exa mp1) (c25_getScope hw hs (p1 := p1) (p2 := p2) (p3 := p3) (p4 := p4) (p5 := p5) (u1 := u1) (hu1 := hu1) (mp1 := mp1)) (by decide) pd__Ljava_lang_String_ rfl rfl rfl rfl (by decide) (fun v D' h => ?_)
  obtain ⟨a1, a2, rfl, rfl⟩ := h
  show W _ _ _ _ _ _ _ _ _ _ _ _ 4 _ [(vr a1)]
  refine W.ldcT (pc := 4) 36 (vs := [(vi 115), (vi 105), (vi 110), (vi 103), (vi 108), (vi 101), (vi 116), (vi 111), (vi 110)]) rfl d18_4 (w122 hw) (wS hw) m1 tx_73696e676c65746f6e (by decide) (by decide) (by decide) (fun a3 a4 => ?_)
  show W _ _ _ _ _ _ _ _ _ _ _ _ 6 _ [(vr a3), (vr a1)]
  refine W.callV (pc := 6) (as := [(vr a3)]) 0 [] d18_6 (w134 hw) (w124 hw) (w126 hw) (w126 hw) (w125 hw) (w3 hw) (w127 hw) (Hp.exa m2) (c22_equals hw hs (p1 := a1) (p2 := a3) (p3 := a2) (p4 := a4) (mp2 := m0) (mp1 := m2) (mp3 := m3) (mp4 := m1)) (by decide) pd_Ljava_lang_Object__Z rfl rfl rfl rfl (by decide) (fun v D' h => ?_)
  obtain ⟨rfl, rfl⟩ := h
  show W _ _ _ _ _ _ _ _ _ _ _ _ 9 _ [(vi 1)]
  refine W.dropAt 0 (D' := (a4, false, ar "" .byte [(vi 115), (vi 105), (vi 110), (vi 103), (vi 108), (vi 101), (vi 116), (vi 111), (vi 110)]) :: (a1, false, oString (vr a2) (vi 0)) :: (a2, false, ar "" .byte [(vi 115), (vi 105), (vi 110), (vi 103), (vi 108), (vi 101), (vi 116), (vi 111), (vi 110)]) :: F) rfl ?_
  refine W.dropAt 0 (D' := (a1, false, oString (vr a2) (vi 0)) :: (a2, false, ar "" .byte [(vi 115), (vi 105), (vi 110), (vi 103), (vi 108), (vi 101), (vi 116), (vi 111), (vi 110)]) :: F) rfl ?_
  refine W.dropAt 0 (D' := (a2, false, ar "" .byte [(vi 115), (vi 105), (vi 110), (vi 103), (vi 108), (vi 101), (vi 116), (vi 111), (vi 110)]) :: F) rfl ?_
  refine W.dropAt 0 (D' := F) rfl ?_
  exact W.ireturn (pc := 9) d18_9 rfl (Or.inr (Or.inl rfl)) (nw_bool (by decide)) (by decide) ⟨rfl, rfl⟩
theorem pd__Z : parseMethodDescriptor "()Z" = some ⟨[], some .boolean⟩ := by decide +kernel
theorem w128 {Z a0} (hw : HW a0 Z) : ((Jvm.Cond.methodLink "com/example/montaje/montaje/beans/BeanDefinitionGetScopePinLaw" (34 : Nat) ({ cls := "com/example/montaje/montaje/beans/BeanDefinition", name := "isSingleton", desc := "()Z" } : Jvm.MethodName)) : Jvm.Cond).before a0 Z = true := hw _ (List.mem_of_getElem? (i := 128) rfl)
theorem w129 {Z a0} (hw : HW a0 Z) : ((Jvm.Cond.declares ({ cls := "com/example/montaje/montaje/beans/BeanDefinition", name := "isSingleton", desc := "()Z" } : Jvm.MethodName)) : Jvm.Cond).before a0 Z = true := hw _ (List.mem_of_getElem? (i := 129) rfl)
theorem w131 {Z a0} (hw : HW a0 Z) : ((Jvm.Cond.selects "com/example/montaje/montaje/beans/BeanDefinition" ({ cls := "com/example/montaje/montaje/beans/BeanDefinition", name := "isSingleton", desc := "()Z" } : Jvm.MethodName) ({ cls := "com/example/montaje/montaje/beans/BeanDefinition", name := "isSingleton", desc := "()Z" } : Jvm.MethodName)) : Jvm.Cond).before a0 Z = true := hw _ (List.mem_of_getElem? (i := 131) rfl)
theorem w130 {Z a0} (hw : HW a0 Z) : ((Jvm.Cond.instanceMethod ({ cls := "com/example/montaje/montaje/beans/BeanDefinition", name := "isSingleton", desc := "()Z" } : Jvm.MethodName)) : Jvm.Cond).before a0 Z = true := hw _ (List.mem_of_getElem? (i := 130) rfl)
theorem w132 {Z a0} (hw : HW a0 Z) : ((Jvm.Cond.code ({ cls := "com/example/montaje/montaje/beans/BeanDefinition", name := "isSingleton", desc := "()Z" } : Jvm.MethodName) prog_4_method_30_code (1 : Nat) (Option.some Jvm.ClassFile.FieldType.boolean)) : Jvm.Cond).before a0 Z = true := hw _ (List.mem_of_getElem? (i := 132) rfl)
theorem w141 {Z a0} (hw : HW a0 Z) : ((Jvm.Cond.stringLink "com/example/montaje/montaje/beans/BeanDefinitionGetScopePinLaw" (24 : Nat) "prototype") : Jvm.Cond).before a0 Z = true := hw _ (List.mem_of_getElem? (i := 141) rfl)
theorem tx_70726f746f74797065 : (∀ c ∈ ("prototype" : String).toList, c.toNat < 256) ∧ ("prototype" : String).toList.map (fun c => Value.int (Jvm.Lit.byteI c.toNat.toUInt16)) = [(.int (112 : Int32)), (.int (114 : Int32)), (.int (111 : Int32)), (.int (116 : Int32)), (.int (111 : Int32)), (.int (116 : Int32)), (.int (121 : Int32)), (.int (112 : Int32)), (.int (101 : Int32))] := by decide
theorem d19_0 : decode prog_4_method_9_code 0 = .ok (.aload_n 1, 1) := by decide +kernel
theorem d19_1 : decode prog_4_method_9_code 1 = .ok (.ldc 63, 2) := by decide +kernel
theorem w140 {Z a0} (hw : HW a0 Z) : ((Jvm.Cond.stringLink "com/example/montaje/montaje/beans/BeanDefinition" (63 : Nat) "scope") : Jvm.Cond).before a0 Z = true := hw _ (List.mem_of_getElem? (i := 140) rfl)
theorem tx_73636f7065 : (∀ c ∈ ("scope" : String).toList, c.toNat < 256) ∧ ("scope" : String).toList.map (fun c => Value.int (Jvm.Lit.byteI c.toNat.toUInt16)) = [(.int (115 : Int32)), (.int (99 : Int32)), (.int (111 : Int32)), (.int (112 : Int32)), (.int (101 : Int32))] := by decide
theorem d19_3 : decode prog_4_method_9_code 3 = .ok (.invokestatic 41, 3) := by decide +kernel
theorem c27_requireNonNull {Z a0} (hw : HW a0 Z) (hs : SF Z) {p1 p2 p3 p4 : Addr} {F : List Ent} : Con Z EL (⟨"java/util/Objects", "requireNonNull", "(Ljava/lang/Object;Ljava/lang/String;)Ljava/lang/Object;"⟩ : MethodName) jdk_31_method_11_code 2 (Option.some (Jvm.ClassFile.FieldType.object "java/lang/Object")) (rmm 0 0 0 0) [(vr p1), (vr p2)] (F) (fun v D' => (v = some (vr p1) ∧ F = D')) := by
  refine Con.of (ls := #[rv p1, rv p2]) (by decide +kernel) rfl ?_
  show W Z EL _ "java/util/Objects" "requireNonNull" _ _ _ _ _ _ _ _ _ _
  refine W.aloadN (pc := 0) d15_0 rfl rfl ?_
  refine W.ifnonnullY (pc := 1) 13 d15_1 (by decide) ?_
  refine W.aloadN (pc := 13) d15_13 rfl rfl ?_
  exact W.areturn (pc := 14) d15_14 rfl rfl rfl (by decide) ⟨rfl, rfl⟩
theorem d19_6 : decode prog_4_method_9_code 6 = .ok (.pop, 1) := by decide +kernel
theorem d19_7 : decode prog_4_method_9_code 7 = .ok (.aload_n 1, 1) := by decide +kernel
theorem d19_8 : decode prog_4_method_9_code 8 = .ok (.ldc 61, 2) := by decide +kernel
theorem d19_10 : decode prog_4_method_9_code 10 = .ok (.invokevirtual 64, 3) := by decide +kernel
theorem d20_24 : decode jdk_43_method_13_code 24 = .ok (.iconst 0, 1) := by decide +kernel
theorem d20_25 : decode jdk_43_method_13_code 25 = .ok (.ireturn, 1) := by decide +kernel
theorem c29_equals {Z a0} (hw : HW a0 Z) (hs : SF Z) {p1 p2 : Addr} {w_p1 : Bool} {ad_p1 : String} {w_p2 : Bool} {ad_p2 : String} {F : List Ent} (mp1 : (p1, w_p1, ar ad_p1 .byte [(vi 112), (vi 114), (vi 111), (vi 116), (vi 111), (vi 116), (vi 121), (vi 112), (vi 101)]) ∈ F) (mp2 : (p2, w_p2, ar ad_p2 .byte [(vi 115), (vi 105), (vi 110), (vi 103), (vi 108), (vi 101), (vi 116), (vi 111), (vi 110)]) ∈ F) : Con Z EL (⟨"java/lang/StringLatin1", "equals", "([B[B)Z"⟩ : MethodName) jdk_43_method_13_code 3 (Option.some Jvm.ClassFile.FieldType.boolean) (rmm 0 0 0 0) [(vr p1), (vr p2)] (F) (fun v D' => (v = some (vi 0) ∧ F = D')) := by
  refine Con.of (ls := #[rv p1, rv p2, uu]) (by decide +kernel) rfl ?_
  show W Z EL _ "java/lang/StringLatin1" "equals" _ _ _ _ _ _ _ _ _ _
  refine W.aloadN (pc := 0) d20_0 rfl rfl ?_
  refine W.alen (pc := 1) (9) d20_1 mp1 rfl ?_
  refine W.aloadN (pc := 2) d20_2 rfl rfl ?_
  refine W.alen (pc := 3) (9) d20_3 mp2 rfl ?_
  refine W.icmpN (pc := 4) d20_4 (n_ne (by decide)) ?_
  refine W.iconst (pc := 7) (0) d20_7 (by decide) ?_
  refine W.istoreN (pc := 8) (ls' := #[rv p1, rv p2, iv 0]) d20_8 rfl ?_
  refine W.iloadN (pc := 9) d20_9 rfl ?_
  refine W.aloadN (pc := 10) d20_10 rfl rfl ?_
  refine W.alen (pc := 11) (9) d20_11 mp1 rfl ?_
  refine W.icmpN (pc := 12) d20_12 (n_ge (by decide)) ?_
  refine W.aloadN (pc := 15) d20_15 rfl rfl ?_
  refine W.iloadN (pc := 16) d20_16 rfl ?_
  refine W.baload (pc := 17) 0 d20_17 mp1 ix0 rfl ?_
  refine W.aloadN (pc := 18) d20_18 rfl rfl ?_
  refine W.iloadN (pc := 19) d20_19 rfl ?_
  refine W.baload (pc := 20) 0 d20_20 mp2 ix0 rfl ?_
  refine W.icmpN (pc := 21) d20_21 (n_eq (by decide)) ?_
  refine W.iconst (pc := 24) (0) d20_24 (by decide) ?_
  exact W.ireturn (pc := 25) d20_25 rfl (Or.inr (Or.inl rfl)) (nw_bool (by decide)) (by decide) ⟨rfl, rfl⟩
theorem d17_54 : decode jdk_42_method_66_code 54 = .ok (.iconst 0, 1) := by decide +kernel
theorem c28_equals {Z a0} (hw : HW a0 Z) (hs : SF Z) {p1 p2 p3 p4 : Addr} {w_p1 : Bool} {w_p2 : Bool} {w_p3 : Bool} {ad_p3 : String} {w_p4 : Bool} {ad_p4 : String} {F : List Ent} (mp1 : (p1, w_p1, oString (vr p3) (vi 0)) ∈ F) (mp2 : (p2, w_p2, oString (vr p4) (vi 0)) ∈ F) (mp3 : (p3, w_p3, ar ad_p3 .byte [(vi 112), (vi 114), (vi 111), (vi 116), (vi 111), (vi 116), (vi 121), (vi 112), (vi 101)]) ∈ F) (mp4 : (p4, w_p4, ar ad_p4 .byte [(vi 115), (vi 105), (vi 110), (vi 103), (vi 108), (vi 101), (vi 116), (vi 111), (vi 110)]) ∈ F) : Con Z EL (⟨"java/lang/String", "equals", "(Ljava/lang/Object;)Z"⟩ : MethodName) jdk_42_method_66_code 3 (Option.some Jvm.ClassFile.FieldType.boolean) (rmm 1 0 0 14) [(vr p1), (vr p2)] (F) (fun v D' => (v = some (vi 0) ∧ F = D')) := by
  refine Con.of (ls := #[rv p1, rv p2, uu]) (by decide +kernel) rfl ?_
  show W Z EL _ "java/lang/String" "equals" _ _ _ _ _ _ _ _ _ _
  refine W.aloadN (pc := 0) d17_0 rfl rfl ?_
  refine W.aloadN (pc := 1) d17_1 rfl rfl ?_
  refine W.know (fun _ _ H => H.neS mp1 m0 mp3 mp2 m0 mp4 (by decide)) (fun hne => ?_)
  refine W.acmpY (pc := 2) 7 d17_2 rfl rfl (show Ca .ne _ _ from fun z => hne (by injection z)) (by decide) ?_
  refine W.aloadN (pc := 7) d17_7 rfl rfl ?_
  refine W.instY (pc := 8) d17_8 (w142 hw) (Hp.ins mp2) ?_
  refine W.ifN (pc := 11) d17_11 (n_eq (by decide)) ?_
  refine W.aloadN (pc := 14) d17_14 rfl rfl ?_
  refine W.castY (pc := 15) d17_15 (w142 hw) (Hp.ins mp2) ?_
  refine W.astoreN (pc := 18) (ls' := #[rv p1, rv p2, rv p2]) d17_18 rfl rfl ?_
  refine W.gets (pc := 19) d17_19 (w14 hw) Via.refl hs.1 ?_
  refine W.ifN (pc := 22) d17_22 (n_eq (by have := hs.2.1; have := q0; omega)) ?_
  refine W.aloadN (pc := 25) d17_25 rfl rfl ?_
  refine W.getf (pc := 26) d17_26 (w26 hw) Via.refl mp1 m1 ?_
  refine W.aloadN (pc := 29) d17_29 rfl rfl ?_
  refine W.getf (pc := 30) d17_30 (w26 hw) Via.refl mp2 m1 ?_
  refine W.icmpN (pc := 33) d17_33 (n_ne (by decide)) ?_
  refine W.aloadN (pc := 36) d17_36 rfl rfl ?_
  refine W.getf (pc := 37) d17_37 (w28 hw) Via.refl mp1 m0 ?_
  refine W.aloadN (pc := 40) d17_40 rfl rfl ?_
  refine W.getf (pc := 41) d17_41 (w28 hw) Via.refl mp2 m0 ?_
  refine W.callS (pc := 44) (as := [(vr p3), (vr p4)]) 0 [] d17_44 (w143 hw) (w144 hw) (w145 hw) (w146 hw) (c29_equals hw hs (p1 := p3) (p2 := p4) (mp1 := mp3) (mp2 := mp4)) (by decide) pd__B_B_Z rfl rfl rfl rfl (by decide) (fun v D' h => ?_)
  obtain ⟨rfl, rfl⟩ := h
  show W _ _ _ _ _ _ _ _ _ _ _ _ 47 _ [(vi 0)]
  refine W.ifY (pc := 47) 54 d17_47 (y_eq (by decide)) (by decide) ?_
  refine W.iconst (pc := 54) (0) d17_54 (by decide) ?_
  exact W.ireturn (pc := 55) d17_55 rfl (Or.inr (Or.inl rfl)) (nw_bool (by decide)) (by decide) ⟨rfl, rfl⟩
theorem d19_13 : decode prog_4_method_9_code 13 = .ok (.ifCond .ne 26, 3) := by decide +kernel
theorem d19_16 : decode prog_4_method_9_code 16 = .ok (.aload_n 1, 1) := by decide +kernel
theorem d19_17 : decode prog_4_method_9_code 17 = .ok (.ldc 68, 2) := by decide +kernel
theorem w147 {Z a0} (hw : HW a0 Z) : ((Jvm.Cond.stringLink "com/example/montaje/montaje/beans/BeanDefinition" (68 : Nat) "prototype") : Jvm.Cond).before a0 Z = true := hw _ (List.mem_of_getElem? (i := 147) rfl)
theorem d19_19 : decode prog_4_method_9_code 19 = .ok (.invokevirtual 64, 3) := by decide +kernel
theorem c31_equals {Z a0} (hw : HW a0 Z) (hs : SF Z) {p1 p2 : Addr} {w_p1 : Bool} {ad_p1 : String} {w_p2 : Bool} {ad_p2 : String} {F : List Ent} (mp1 : (p1, w_p1, ar ad_p1 .byte [(vi 112), (vi 114), (vi 111), (vi 116), (vi 111), (vi 116), (vi 121), (vi 112), (vi 101)]) ∈ F) (mp2 : (p2, w_p2, ar ad_p2 .byte [(vi 112), (vi 114), (vi 111), (vi 116), (vi 111), (vi 116), (vi 121), (vi 112), (vi 101)]) ∈ F) : Con Z EL (⟨"java/lang/StringLatin1", "equals", "([B[B)Z"⟩ : MethodName) jdk_43_method_13_code 3 (Option.some Jvm.ClassFile.FieldType.boolean) (rmm 0 0 0 0) [(vr p1), (vr p2)] (F) (fun v D' => (v = some (vi 1) ∧ F = D')) := by
  refine Con.of (ls := #[rv p1, rv p2, uu]) (by decide +kernel) rfl ?_
  show W Z EL _ "java/lang/StringLatin1" "equals" _ _ _ _ _ _ _ _ _ _
  refine W.aloadN (pc := 0) d20_0 rfl rfl ?_
  refine W.alen (pc := 1) (9) d20_1 mp1 rfl ?_
  refine W.aloadN (pc := 2) d20_2 rfl rfl ?_
  refine W.alen (pc := 3) (9) d20_3 mp2 rfl ?_
  refine W.icmpN (pc := 4) d20_4 (n_ne (by decide)) ?_
  refine W.iconst (pc := 7) (0) d20_7 (by decide) ?_
  refine W.istoreN (pc := 8) (ls' := #[rv p1, rv p2, iv 0]) d20_8 rfl ?_
  refine W.iloadN (pc := 9) d20_9 rfl ?_
  refine W.aloadN (pc := 10) d20_10 rfl rfl ?_
  refine W.alen (pc := 11) (9) d20_11 mp1 rfl ?_
  refine W.icmpN (pc := 12) d20_12 (n_ge (by decide)) ?_
  refine W.aloadN (pc := 15) d20_15 rfl rfl ?_
  refine W.iloadN (pc := 16) d20_16 rfl ?_
  refine W.baload (pc := 17) 0 d20_17 mp1 ix0 rfl ?_
  refine W.aloadN (pc := 18) d20_18 rfl rfl ?_
  refine W.iloadN (pc := 19) d20_19 rfl ?_
  refine W.baload (pc := 20) 0 d20_20 mp2 ix0 rfl ?_
  refine W.icmpY (pc := 21) 26 d20_21 (y_eq (by decide)) (by decide) ?_
  refine W.iincK (pc := 26) (ls' := #[rv p1, rv p2, iv 1]) (1) (1 : Int32) d20_26 (by decide) rfl (by decide) rfl ?_
  refine W.goto (pc := 29) 9 d20_29 (by decide) ?_
  refine W.iloadN (pc := 9) d20_9 rfl ?_
  refine W.aloadN (pc := 10) d20_10 rfl rfl ?_
  refine W.alen (pc := 11) (9) d20_11 mp1 rfl ?_
  refine W.icmpN (pc := 12) d20_12 (n_ge (by decide)) ?_
  refine W.aloadN (pc := 15) d20_15 rfl rfl ?_
  refine W.iloadN (pc := 16) d20_16 rfl ?_
  refine W.baload (pc := 17) 1 d20_17 mp1 ix1 rfl ?_
  refine W.aloadN (pc := 18) d20_18 rfl rfl ?_
  refine W.iloadN (pc := 19) d20_19 rfl ?_
  refine W.baload (pc := 20) 1 d20_20 mp2 ix1 rfl ?_
  refine W.icmpY (pc := 21) 26 d20_21 (y_eq (by decide)) (by decide) ?_
  refine W.iincK (pc := 26) (ls' := #[rv p1, rv p2, iv 2]) (1) (2 : Int32) d20_26 (by decide) rfl (by decide) rfl ?_
  refine W.goto (pc := 29) 9 d20_29 (by decide) ?_
  refine W.iloadN (pc := 9) d20_9 rfl ?_
  refine W.aloadN (pc := 10) d20_10 rfl rfl ?_
  refine W.alen (pc := 11) (9) d20_11 mp1 rfl ?_
  refine W.icmpN (pc := 12) d20_12 (n_ge (by decide)) ?_
  refine W.aloadN (pc := 15) d20_15 rfl rfl ?_
  refine W.iloadN (pc := 16) d20_16 rfl ?_
  refine W.baload (pc := 17) 2 d20_17 mp1 ix2 rfl ?_
  refine W.aloadN (pc := 18) d20_18 rfl rfl ?_
  refine W.iloadN (pc := 19) d20_19 rfl ?_
  refine W.baload (pc := 20) 2 d20_20 mp2 ix2 rfl ?_
  refine W.icmpY (pc := 21) 26 d20_21 (y_eq (by decide)) (by decide) ?_
  refine W.iincK (pc := 26) (ls' := #[rv p1, rv p2, iv 3]) (1) (3 : Int32) d20_26 (by decide) rfl (by decide) rfl ?_
  refine W.goto (pc := 29) 9 d20_29 (by decide) ?_
  refine W.iloadN (pc := 9) d20_9 rfl ?_
  refine W.aloadN (pc := 10) d20_10 rfl rfl ?_
  refine W.alen (pc := 11) (9) d20_11 mp1 rfl ?_
  refine W.icmpN (pc := 12) d20_12 (n_ge (by decide)) ?_
  refine W.aloadN (pc := 15) d20_15 rfl rfl ?_
  refine W.iloadN (pc := 16) d20_16 rfl ?_
  refine W.baload (pc := 17) 3 d20_17 mp1 ix3 rfl ?_
  refine W.aloadN (pc := 18) d20_18 rfl rfl ?_
  refine W.iloadN (pc := 19) d20_19 rfl ?_
  refine W.baload (pc := 20) 3 d20_20 mp2 ix3 rfl ?_
  refine W.icmpY (pc := 21) 26 d20_21 (y_eq (by decide)) (by decide) ?_
  refine W.iincK (pc := 26) (ls' := #[rv p1, rv p2, iv 4]) (1) (4 : Int32) d20_26 (by decide) rfl (by decide) rfl ?_
  refine W.goto (pc := 29) 9 d20_29 (by decide) ?_
  refine W.iloadN (pc := 9) d20_9 rfl ?_
  refine W.aloadN (pc := 10) d20_10 rfl rfl ?_
  refine W.alen (pc := 11) (9) d20_11 mp1 rfl ?_
  refine W.icmpN (pc := 12) d20_12 (n_ge (by decide)) ?_
  refine W.aloadN (pc := 15) d20_15 rfl rfl ?_
  refine W.iloadN (pc := 16) d20_16 rfl ?_
  refine W.baload (pc := 17) 4 d20_17 mp1 ix4 rfl ?_
  refine W.aloadN (pc := 18) d20_18 rfl rfl ?_
  refine W.iloadN (pc := 19) d20_19 rfl ?_
  refine W.baload (pc := 20) 4 d20_20 mp2 ix4 rfl ?_
  refine W.icmpY (pc := 21) 26 d20_21 (y_eq (by decide)) (by decide) ?_
  refine W.iincK (pc := 26) (ls' := #[rv p1, rv p2, iv 5]) (1) (5 : Int32) d20_26 (by decide) rfl (by decide) rfl ?_
  refine W.goto (pc := 29) 9 d20_29 (by decide) ?_
  refine W.iloadN (pc := 9) d20_9 rfl ?_
  refine W.aloadN (pc := 10) d20_10 rfl rfl ?_
  refine W.alen (pc := 11) (9) d20_11 mp1 rfl ?_
  refine W.icmpN (pc := 12) d20_12 (n_ge (by decide)) ?_
  refine W.aloadN (pc := 15) d20_15 rfl rfl ?_
  refine W.iloadN (pc := 16) d20_16 rfl ?_
  refine W.baload (pc := 17) 5 d20_17 mp1 ix5 rfl ?_
  refine W.aloadN (pc := 18) d20_18 rfl rfl ?_
  refine W.iloadN (pc := 19) d20_19 rfl ?_
  refine W.baload (pc := 20) 5 d20_20 mp2 ix5 rfl ?_
  refine W.icmpY (pc := 21) 26 d20_21 (y_eq (by decide)) (by decide) ?_
  refine W.iincK (pc := 26) (ls' := #[rv p1, rv p2, iv 6]) (1) (6 : Int32) d20_26 (by decide) rfl (by decide) rfl ?_
  refine W.goto (pc := 29) 9 d20_29 (by decide) ?_
  refine W.iloadN (pc := 9) d20_9 rfl ?_
  refine W.aloadN (pc := 10) d20_10 rfl rfl ?_
  refine W.alen (pc := 11) (9) d20_11 mp1 rfl ?_
  refine W.icmpN (pc := 12) d20_12 (n_ge (by decide)) ?_
  refine W.aloadN (pc := 15) d20_15 rfl rfl ?_
  refine W.iloadN (pc := 16) d20_16 rfl ?_
  refine W.baload (pc := 17) 6 d20_17 mp1 ix6 rfl ?_
  refine W.aloadN (pc := 18) d20_18 rfl rfl ?_
  refine W.iloadN (pc := 19) d20_19 rfl ?_
  refine W.baload (pc := 20) 6 d20_20 mp2 ix6 rfl ?_
  refine W.icmpY (pc := 21) 26 d20_21 (y_eq (by decide)) (by decide) ?_
  refine W.iincK (pc := 26) (ls' := #[rv p1, rv p2, iv 7]) (1) (7 : Int32) d20_26 (by decide) rfl (by decide) rfl ?_
  refine W.goto (pc := 29) 9 d20_29 (by decide) ?_
  refine W.iloadN (pc := 9) d20_9 rfl ?_
  refine W.aloadN (pc := 10) d20_10 rfl rfl ?_
  refine W.alen (pc := 11) (9) d20_11 mp1 rfl ?_
  refine W.icmpN (pc := 12) d20_12 (n_ge (by decide)) ?_
  refine W.aloadN (pc := 15) d20_15 rfl rfl ?_
  refine W.iloadN (pc := 16) d20_16 rfl ?_
  refine W.baload (pc := 17) 7 d20_17 mp1 ix7 rfl ?_
  refine W.aloadN (pc := 18) d20_18 rfl rfl ?_
  refine W.iloadN (pc := 19) d20_19 rfl ?_
  refine W.baload (pc := 20) 7 d20_20 mp2 ix7 rfl ?_
  refine W.icmpY (pc := 21) 26 d20_21 (y_eq (by decide)) (by decide) ?_
  refine W.iincK (pc := 26) (ls' := #[rv p1, rv p2, iv 8]) (1) (8 : Int32) d20_26 (by decide) rfl (by decide) rfl ?_
  refine W.goto (pc := 29) 9 d20_29 (by decide) ?_
  refine W.iloadN (pc := 9) d20_9 rfl ?_
  refine W.aloadN (pc := 10) d20_10 rfl rfl ?_
  refine W.alen (pc := 11) (9) d20_11 mp1 rfl ?_
  refine W.icmpN (pc := 12) d20_12 (n_ge (by decide)) ?_
  refine W.aloadN (pc := 15) d20_15 rfl rfl ?_
  refine W.iloadN (pc := 16) d20_16 rfl ?_
  refine W.baload (pc := 17) 8 d20_17 mp1 ix8 rfl ?_
  refine W.aloadN (pc := 18) d20_18 rfl rfl ?_
  refine W.iloadN (pc := 19) d20_19 rfl ?_
  refine W.baload (pc := 20) 8 d20_20 mp2 ix8 rfl ?_
  refine W.icmpY (pc := 21) 26 d20_21 (y_eq (by decide)) (by decide) ?_
  refine W.iincK (pc := 26) (ls' := #[rv p1, rv p2, iv 9]) (1) (9 : Int32) d20_26 (by decide) rfl (by decide) rfl ?_
  refine W.goto (pc := 29) 9 d20_29 (by decide) ?_
  refine W.iloadN (pc := 9) d20_9 rfl ?_
  refine W.aloadN (pc := 10) d20_10 rfl rfl ?_
  refine W.alen (pc := 11) (9) d20_11 mp1 rfl ?_
  refine W.icmpY (pc := 12) 32 d20_12 (y_ge (by decide)) (by decide) ?_
  refine W.iconst (pc := 32) (1) d20_32 (by decide) ?_
  exact W.ireturn (pc := 33) d20_33 rfl (Or.inr (Or.inl rfl)) (nw_bool (by decide)) (by decide) ⟨rfl, rfl⟩
theorem c30_equals {Z a0} (hw : HW a0 Z) (hs : SF Z) {p1 p2 p3 p4 : Addr} {w_p2 : Bool} {w_p1 : Bool} {w_p3 : Bool} {ad_p3 : String} {w_p4 : Bool} {ad_p4 : String} {F : List Ent} (mp2 : (p2, w_p2, oString (vr p4) (vi 0)) ∈ F) (mp1 : (p1, w_p1, oString (vr p3) (vi 0)) ∈ F) (mp3 : (p3, w_p3, ar ad_p3 .byte [(vi 112), (vi 114), (vi 111), (vi 116), (vi 111), (vi 116), (vi 121), (vi 112), (vi 101)]) ∈ F) (mp4 : (p4, w_p4, ar ad_p4 .byte [(vi 112), (vi 114), (vi 111), (vi 116), (vi 111), (vi 116), (vi 121), (vi 112), (vi 101)]) ∈ F) : Con Z EL (⟨"java/lang/String", "equals", "(Ljava/lang/Object;)Z"⟩ : MethodName) jdk_42_method_66_code 3 (Option.some Jvm.ClassFile.FieldType.boolean) (rmm 1 0 0 14) [(vr p1), (vr p2)] (F) (fun v D' => (v = some (vi 1) ∧ F = D')) := by
  refine Con.of (ls := #[rv p1, rv p2, uu]) (by decide +kernel) rfl ?_
  show W Z EL _ "java/lang/String" "equals" _ _ _ _ _ _ _ _ _ _
  refine W.aloadN (pc := 0) d17_0 rfl rfl ?_
  refine W.aloadN (pc := 1) d17_1 rfl rfl ?_
  refine W.acmp (pc := 2) 7 d17_2 rfl rfl (by decide) (fun h1 => ?_) (fun h1 => ?_)
  ·
   have nh1 : p1 ≠ p2 := fun z => h1 (by rw [z])
   refine W.aloadN (pc := 7) d17_7 rfl rfl ?_
   refine W.instY (pc := 8) d17_8 (w142 hw) (Hp.ins mp2) ?_
   refine W.ifN (pc := 11) d17_11 (n_eq (by decide)) ?_
   refine W.aloadN (pc := 14) d17_14 rfl rfl ?_
   refine W.castY (pc := 15) d17_15 (w142 hw) (Hp.ins mp2) ?_
   refine W.astoreN (pc := 18) (ls' := #[rv p1, rv p2, rv p2]) d17_18 rfl rfl ?_
   refine W.gets (pc := 19) d17_19 (w14 hw) Via.refl hs.1 ?_
   refine W.ifN (pc := 22) d17_22 (n_eq (by have := hs.2.1; have := q0; omega)) ?_
   refine W.aloadN (pc := 25) d17_25 rfl rfl ?_
   refine W.getf (pc := 26) d17_26 (w26 hw) Via.refl mp1 m1 ?_
   refine W.aloadN (pc := 29) d17_29 rfl rfl ?_
   refine W.getf (pc := 30) d17_30 (w26 hw) Via.refl mp2 m1 ?_
   refine W.icmpN (pc := 33) d17_33 (n_ne (by decide)) ?_
   refine W.aloadN (pc := 36) d17_36 rfl rfl ?_
   refine W.getf (pc := 37) d17_37 (w28 hw) Via.refl mp1 m0 ?_
   refine W.aloadN (pc := 40) d17_40 rfl rfl ?_
   refine W.getf (pc := 41) d17_41 (w28 hw) Via.refl mp2 m0 ?_
   refine W.callS (pc := 44) (as := [(vr p3), (vr p4)]) 0 [] d17_44 (w143 hw) (w144 hw) (w145 hw) (w146 hw) (c31_equals hw hs (p1 := p3) (p2 := p4) (mp1 := mp3) (mp2 := mp4)) (by decide) pd__B_B_Z rfl rfl rfl rfl (by decide) (fun v D' h => ?_)
   obtain ⟨rfl, rfl⟩ := h
   show W _ _ _ _ _ _ _ _ _ _ _ _ 47 _ [(vi 1)]
   refine W.ifN (pc := 47) d17_47 (n_eq (by decide)) ?_
   refine W.iconst (pc := 50) (1) d17_50 (by decide) ?_
   refine W.goto (pc := 51) 55 d17_51 (by decide) ?_
   exact W.ireturn (pc := 55) d17_55 rfl (Or.inr (Or.inl rfl)) (nw_bool (by decide)) (by decide) ⟨rfl, rfl⟩
  ·
   refine W.iconst (pc := 5) (1) d17_5 (by decide) ?_
   exact W.ireturn (pc := 6) d17_6 rfl (Or.inr (Or.inl rfl)) (nw_bool (by decide)) (by decide) ⟨rfl, rfl⟩
theorem d19_22 : decode prog_4_method_9_code 22 = .ok (.ifCond .ne 17, 3) := by decide +kernel
theorem d19_39 : decode prog_4_method_9_code 39 = .ok (.aload_n 0, 1) := by decide +kernel
theorem d19_40 : decode prog_4_method_9_code 40 = .ok (.aload_n 1, 1) := by decide +kernel
theorem d19_41 : decode prog_4_method_9_code 41 = .ok (.putfield 58, 3) := by decide +kernel
theorem d19_44 : decode prog_4_method_9_code 44 = .ok (.return_, 1) := by decide +kernel
theorem c26_setScope {Z a0} (hw : HW a0 Z) (hs : SF Z) {p1 p2 p3 p4 p5 p6 p7 p8 : Addr} {x1 : Int32} (hx1 : -128 ≤ x1.toInt ∧ x1.toInt ≤ 127) {x2 : Int32} (hx2 : -128 ≤ x2.toInt ∧ x2.toInt ≤ 127) {u1 : Value} (hu1 : u1.isRef = true) {w_p2 : Bool} {w_p7 : Bool} {ad_p7 : String} {F : List Ent} (mp2 : (p2, w_p2, oString (vr p7) (vi 0)) ∈ F) (mp7 : (p7, w_p7, ar ad_p7 .byte [(vi 112), (vi 114), (vi 111), (vi 116), (vi 111), (vi 116), (vi 121), (vi 112), (vi 101)]) ∈ F) : Con Z EL (⟨"com/example/montaje/montaje/beans/BeanDefinition", "setScope", "(Ljava/lang/String;)V"⟩ : MethodName) prog_4_method_9_code 2 (Option.none : Option Jvm.ClassFile.FieldType) (rmm 2 6 104 28) [(vr p1), (vr p2)] ((p1, true, oBeanDefinition (vr (g1 Z)) (vr p3) (vr p4) (vr p5) u1 (vr p6) .null) :: F) (fun v D' => (v = none ∧ (p1, true, oBeanDefinition (vr (g1 Z)) (vr p3) (vr p4) (vr p5) u1 (vr p6) (vr p2)) :: F = D')) := by
  refine Con.of (ls := #[rv p1, rv p2]) (by decide +kernel) rfl ?_
  show W Z EL _ "com/example/montaje/montaje/beans/BeanDefinition" "setScope" _ _ _ _ _ _ _ _ _ _
  refine W.aloadN (pc := 0) d19_0 rfl rfl ?_
  refine W.ldcT (pc := 1) 20 (vs := [(vi 115), (vi 99), (vi 111), (vi 112), (vi 101)]) rfl d19_1 (w140 hw) (wS hw) m2 tx_73636f7065 (by decide) (by decide) (by decide) (fun a1 a2 => ?_)
  show W _ _ _ _ _ _ _ _ _ _ _ _ 3 _ [(vr a1), (vr p2)]
  refine W.callS (pc := 3) (as := [(vr p2), (vr a1)]) 0 [] d19_3 (w106 hw) (w107 hw) (w108 hw) (w109 hw) (c27_requireNonNull hw hs (p1 := p2) (p2 := a1) (p3 := p7) (p4 := a2)) (by decide) pd_Ljava_lang_Object_Ljava_lang_String__Ljava_lang_Object_ rfl rfl rfl rfl (by decide) (fun v D' h => ?_)
  obtain ⟨rfl, rfl⟩ := h
  show W _ _ _ _ _ _ _ _ _ _ _ _ 6 _ [(vr p2)]
  refine W.popv (pc := 6) d19_6 rfl ?_
  refine W.aloadN (pc := 7) d19_7 rfl rfl ?_
  refine W.ldcT (pc := 8) 36 (vs := [(vi 115), (vi 105), (vi 110), (vi 103), (vi 108), (vi 101), (vi 116), (vi 111), (vi 110)]) rfl d19_8 (w122 hw) (wS hw) m1 tx_73696e676c65746f6e (by decide) (by decide) (by decide) (fun a3 a4 => ?_)
  show W _ _ _ _ _ _ _ _ _ _ _ _ 10 _ [(vr a3), (vr p2)]
  refine W.callV (pc := 10) (as := [(vr a3)]) 0 [] d19_10 (w134 hw) (w124 hw) (w126 hw) (w126 hw) (w125 hw) (w3 hw) (w127 hw) (Hp.exa (mS (mS (mS (mS (mS mp2)))))) (c28_equals hw hs (p1 := p2) (p2 := a3) (p3 := p7) (p4 := a4) (mp1 := (mS (mS (mS (mS (mS mp2)))))) (mp2 := m0) (mp3 := (mS (mS (mS (mS (mS mp7)))))) (mp4 := m1)) (by decide) pd_Ljava_lang_Object__Z rfl rfl rfl rfl (by decide) (fun v D' h => ?_)
  obtain ⟨rfl, rfl⟩ := h
  show W _ _ _ _ _ _ _ _ _ _ _ _ 13 _ [(vi 0)]
  refine W.ifN (pc := 13) d19_13 (n_ne (by decide)) ?_
  refine W.aloadN (pc := 16) d19_16 rfl rfl ?_
  refine W.ldcT (pc := 17) 36 (vs := [(vi 112), (vi 114), (vi 111), (vi 116), (vi 111), (vi 116), (vi 121), (vi 112), (vi 101)]) rfl d19_17 (w147 hw) (wS hw) m3 tx_70726f746f74797065 (by decide) (by decide) (by decide) (fun a5 a6 => ?_)
  show W _ _ _ _ _ _ _ _ _ _ _ _ 19 _ [(vr a5), (vr p2)]
  refine W.callV (pc := 19) (as := [(vr a5)]) 0 [] d19_19 (w134 hw) (w124 hw) (w126 hw) (w126 hw) (w125 hw) (w3 hw) (w127 hw) (Hp.exa (mS (mS (mS (mS (mS (mS (mS mp2)))))))) (c30_equals hw hs (p1 := p2) (p2 := a5) (p3 := p7) (p4 := a6) (mp2 := m0) (mp1 := (mS (mS (mS (mS (mS (mS (mS mp2)))))))) (mp3 := (mS (mS (mS (mS (mS (mS (mS mp7)))))))) (mp4 := m1)) (by decide) pd_Ljava_lang_Object__Z rfl rfl rfl rfl (by decide) (fun v D' h => ?_)
  obtain ⟨rfl, rfl⟩ := h
  show W _ _ _ _ _ _ _ _ _ _ _ _ 22 _ [(vi 1)]
  refine W.ifY (pc := 22) 39 d19_22 (y_ne (by decide)) (by decide) ?_
  refine W.aloadN (pc := 39) d19_39 rfl rfl ?_
  refine W.aloadN (pc := 40) d19_40 rfl rfl ?_
  refine W.putf (pc := 41) (D' := (a5, false, oString (vr a6) (vi 0)) :: (a6, false, ar "" .byte [(vi 112), (vi 114), (vi 111), (vi 116), (vi 111), (vi 116), (vi 121), (vi 112), (vi 101)]) :: (a3, false, oString (vr a4) (vi 0)) :: (a4, false, ar "" .byte [(vi 115), (vi 105), (vi 110), (vi 103), (vi 108), (vi 101), (vi 116), (vi 111), (vi 110)]) :: (a1, false, oString (vr a2) (vi 0)) :: (a2, false, ar "" .byte [(vi 115), (vi 99), (vi 111), (vi 112), (vi 101)]) :: (p1, true, oBeanDefinition (vr (g1 Z)) (vr p3) (vr p4) (vr p5) u1 (vr p6) (vr p2)) :: F) 6 6 d19_41 (w120 hw) Via.refl rfl rfl (Or.inl (w121 hw)) (w31 hw) pfLjava_lang_String_ rfl rfl rfl ?_
  refine W.dropAt 0 (D' := (a6, false, ar "" .byte [(vi 112), (vi 114), (vi 111), (vi 116), (vi 111), (vi 116), (vi 121), (vi 112), (vi 101)]) :: (a3, false, oString (vr a4) (vi 0)) :: (a4, false, ar "" .byte [(vi 115), (vi 105), (vi 110), (vi 103), (vi 108), (vi 101), (vi 116), (vi 111), (vi 110)]) :: (a1, false, oString (vr a2) (vi 0)) :: (a2, false, ar "" .byte [(vi 115), (vi 99), (vi 111), (vi 112), (vi 101)]) :: (p1, true, oBeanDefinition (vr (g1 Z)) (vr p3) (vr p4) (vr p5) u1 (vr p6) (vr p2)) :: F) rfl ?_
  refine W.dropAt 0 (D' := (a3, false, oString (vr a4) (vi 0)) :: (a4, false, ar "" .byte [(vi 115), (vi 105), (vi 110), (vi 103), (vi 108), (vi 101), (vi 116), (vi 111), (vi 110)]) :: (a1, false, oString (vr a2) (vi 0)) :: (a2, false, ar "" .byte [(vi 115), (vi 99), (vi 111), (vi 112), (vi 101)]) :: (p1, true, oBeanDefinition (vr (g1 Z)) (vr p3) (vr p4) (vr p5) u1 (vr p6) (vr p2)) :: F) rfl ?_
  refine W.dropAt 0 (D' := (a4, false, ar "" .byte [(vi 115), (vi 105), (vi 110), (vi 103), (vi 108), (vi 101), (vi 116), (vi 111), (vi 110)]) :: (a1, false, oString (vr a2) (vi 0)) :: (a2, false, ar "" .byte [(vi 115), (vi 99), (vi 111), (vi 112), (vi 101)]) :: (p1, true, oBeanDefinition (vr (g1 Z)) (vr p3) (vr p4) (vr p5) u1 (vr p6) (vr p2)) :: F) rfl ?_
  refine W.dropAt 0 (D' := (a1, false, oString (vr a2) (vi 0)) :: (a2, false, ar "" .byte [(vi 115), (vi 99), (vi 111), (vi 112), (vi 101)]) :: (p1, true, oBeanDefinition (vr (g1 Z)) (vr p3) (vr p4) (vr p5) u1 (vr p6) (vr p2)) :: F) rfl ?_
  refine W.dropAt 0 (D' := (a2, false, ar "" .byte [(vi 115), (vi 99), (vi 111), (vi 112), (vi 101)]) :: (p1, true, oBeanDefinition (vr (g1 Z)) (vr p3) (vr p4) (vr p5) u1 (vr p6) (vr p2)) :: F) rfl ?_
  refine W.dropAt 0 (D' := (p1, true, oBeanDefinition (vr (g1 Z)) (vr p3) (vr p4) (vr p5) u1 (vr p6) (vr p2)) :: F) rfl ?_
  exact W.return_ (pc := 44) d19_44 rfl (by decide) ⟨rfl, rfl⟩
theorem pd_Ljava_lang_String__V : parseMethodDescriptor "(Ljava/lang/String;)V" = some ⟨[(.object "java/lang/String")], none⟩ := by decide +kernel
theorem w135 {Z a0} (hw : HW a0 Z) : ((Jvm.Cond.methodLink "com/example/montaje/montaje/beans/BeanDefinitionGetScopePinLaw" (20 : Nat) ({ cls := "com/example/montaje/montaje/beans/BeanDefinition", name := "setScope", desc := "(Ljava/lang/String;)V" } : Jvm.MethodName)) : Jvm.Cond).before a0 Z = true := hw _ (List.mem_of_getElem? (i := 135) rfl)
theorem w136 {Z a0} (hw : HW a0 Z) : ((Jvm.Cond.declares ({ cls := "com/example/montaje/montaje/beans/BeanDefinition", name := "setScope", desc := "(Ljava/lang/String;)V" } : Jvm.MethodName)) : Jvm.Cond).before a0 Z = true := hw _ (List.mem_of_getElem? (i := 136) rfl)
theorem w138 {Z a0} (hw : HW a0 Z) : ((Jvm.Cond.selects "com/example/montaje/montaje/beans/BeanDefinition" ({ cls := "com/example/montaje/montaje/beans/BeanDefinition", name := "setScope", desc := "(Ljava/lang/String;)V" } : Jvm.MethodName) ({ cls := "com/example/montaje/montaje/beans/BeanDefinition", name := "setScope", desc := "(Ljava/lang/String;)V" } : Jvm.MethodName)) : Jvm.Cond).before a0 Z = true := hw _ (List.mem_of_getElem? (i := 138) rfl)
theorem w137 {Z a0} (hw : HW a0 Z) : ((Jvm.Cond.instanceMethod ({ cls := "com/example/montaje/montaje/beans/BeanDefinition", name := "setScope", desc := "(Ljava/lang/String;)V" } : Jvm.MethodName)) : Jvm.Cond).before a0 Z = true := hw _ (List.mem_of_getElem? (i := 137) rfl)
theorem w139 {Z a0} (hw : HW a0 Z) : ((Jvm.Cond.code ({ cls := "com/example/montaje/montaje/beans/BeanDefinition", name := "setScope", desc := "(Ljava/lang/String;)V" } : Jvm.MethodName) prog_4_method_9_code (2 : Nat) (Option.none : Option Jvm.ClassFile.FieldType)) : Jvm.Cond).before a0 Z = true := hw _ (List.mem_of_getElem? (i := 139) rfl)
theorem d16_12 : decode prog_4_method_8_code 12 = .ok (.aload_n 0, 1) := by decide +kernel
theorem d16_13 : decode prog_4_method_8_code 13 = .ok (.getfield 58, 3) := by decide +kernel
theorem c32_getScope {Z a0} (hw : HW a0 Z) (hs : SF Z) {p1 p2 p3 p4 p5 p6 p7 p8 : Addr} {x1 : Int32} (hx1 : -128 ≤ x1.toInt ∧ x1.toInt ≤ 127) {x2 : Int32} (hx2 : -128 ≤ x2.toInt ∧ x2.toInt ≤ 127) {u1 : Value} (hu1 : u1.isRef = true) {w_p1 : Bool} {F : List Ent} (mp1 : (p1, w_p1, oBeanDefinition (vr (g1 Z)) (vr p2) (vr p3) (vr p4) u1 (vr p5) (vr p6)) ∈ F) : Con Z EL (⟨"com/example/montaje/montaje/beans/BeanDefinition", "getScope", "()Ljava/lang/String;"⟩ : MethodName) prog_4_method_8_code 1 (Option.some (Jvm.ClassFile.FieldType.object "java/lang/String")) (rmm 0 0 0 0) [(vr p1)] (F) (fun v D' => (v = some (vr p6) ∧ F = D')) := by
  refine Con.of (ls := #[rv p1]) (by decide +kernel) rfl ?_
  show W Z EL _ "com/example/montaje/montaje/beans/BeanDefinition" "getScope" _ _ _ _ _ _ _ _ _ _
  refine W.aloadN (pc := 0) d16_0 rfl rfl ?_
  refine W.getf (pc := 1) d16_1 (w120 hw) Via.refl mp1 m6 ?_
  refine W.ifnonnullY (pc := 4) 12 d16_4 (by decide) ?_
  refine W.aloadN (pc := 12) d16_12 rfl rfl ?_
  refine W.getf (pc := 13) d16_13 (w120 hw) Via.refl mp1 m6 ?_
  exact W.areturn (pc := 16) d16_16 rfl rfl rfl (by decide) ⟨rfl, rfl⟩
theorem c33_equals {Z a0} (hw : HW a0 Z) (hs : SF Z) {p1 p2 : Addr} {F : List Ent} : Con Z EL (⟨"java/lang/String", "equals", "(Ljava/lang/Object;)Z"⟩ : MethodName) jdk_42_method_66_code 3 (Option.some Jvm.ClassFile.FieldType.boolean) (rmm 0 0 0 0) [(vr p1), (vr p1)] (F) (fun v D' => (v = some (vi 1) ∧ F = D')) := by
  refine Con.of (ls := #[rv p1, rv p1, uu]) (by decide +kernel) rfl ?_
  show W Z EL _ "java/lang/String" "equals" _ _ _ _ _ _ _ _ _ _
  refine W.aloadN (pc := 0) d17_0 rfl rfl ?_
  refine W.aloadN (pc := 1) d17_1 rfl rfl ?_
  refine W.acmpN (pc := 2) d17_2 rfl rfl (fun z => z rfl) ?_
  refine W.iconst (pc := 5) (1) d17_5 (by decide) ?_
  exact W.ireturn (pc := 6) d17_6 rfl (Or.inr (Or.inl rfl)) (nw_bool (by decide)) (by decide) ⟨rfl, rfl⟩
theorem c35_getScope {Z a0} (hw : HW a0 Z) (hs : SF Z) {p1 p2 p3 p4 p5 p6 p7 : Addr} {u1 : Value} (hu1 : u1.isRef = true) {w_p1 : Bool} {F : List Ent} (mp1 : (p1, w_p1, oBeanDefinition (vr (g1 Z)) (vr p2) (vr p3) (vr p4) u1 (vr p5) (vr p6)) ∈ F) : Con Z EL (⟨"com/example/montaje/montaje/beans/BeanDefinition", "getScope", "()Ljava/lang/String;"⟩ : MethodName) prog_4_method_8_code 1 (Option.some (Jvm.ClassFile.FieldType.object "java/lang/String")) (rmm 0 0 0 0) [(vr p1)] (F) (fun v D' => (v = some (vr p6) ∧ F = D')) := by
  refine Con.of (ls := #[rv p1]) (by decide +kernel) rfl ?_
  show W Z EL _ "com/example/montaje/montaje/beans/BeanDefinition" "getScope" _ _ _ _ _ _ _ _ _ _
  refine W.aloadN (pc := 0) d16_0 rfl rfl ?_
  refine W.getf (pc := 1) d16_1 (w120 hw) Via.refl mp1 m6 ?_
  refine W.ifnonnullY (pc := 4) 12 d16_4 (by decide) ?_
  refine W.aloadN (pc := 12) d16_12 rfl rfl ?_
  refine W.getf (pc := 13) d16_13 (w120 hw) Via.refl mp1 m6 ?_
  exact W.areturn (pc := 16) d16_16 rfl rfl rfl (by decide) ⟨rfl, rfl⟩
theorem c34_isSingleton {Z a0} (hw : HW a0 Z) (hs : SF Z) {p1 p2 p3 p4 p5 p6 p7 p8 : Addr} {x1 : Int32} (hx1 : -128 ≤ x1.toInt ∧ x1.toInt ≤ 127) {x2 : Int32} (hx2 : -128 ≤ x2.toInt ∧ x2.toInt ≤ 127) {u1 : Value} (hu1 : u1.isRef = true) {w_p1 : Bool} {w_p6 : Bool} {w_p8 : Bool} {ad_p8 : String} {F : List Ent} (mp1 : (p1, w_p1, oBeanDefinition (vr (g1 Z)) (vr p2) (vr p3) (vr p4) u1 (vr p5) (vr p6)) ∈ F) (mp6 : (p6, w_p6, oString (vr p8) (vi 0)) ∈ F) (mp8 : (p8, w_p8, ar ad_p8 .byte [(vi 112), (vi 114), (vi 111), (vi 116), (vi 111), (vi 116), (vi 121), (vi 112), (vi 101)]) ∈ F) : Con Z EL (⟨"com/example/montaje/montaje/beans/BeanDefinition", "isSingleton", "()Z"⟩ : MethodName) prog_4_method_30_code 1 (Option.some Jvm.ClassFile.FieldType.boolean) (rmm 2 2 40 28) [(vr p1)] (F) (fun v D' => (v = some (vi 0) ∧ F = D')) := by
  refine Con.of (ls := #[rv p1]) (by decide +kernel) rfl ?_
  show W Z EL _ "com/example/montaje/montaje/beans/BeanDefinition" "isSingleton" _ _ _ _ _ _ _ _ _ _
  refine W.aloadN (pc := 0) d18_0 rfl rfl ?_
  refine W.callV (pc := 1) (as := []) 0 [] d18_1 (w133 hw) (w116 hw) (w118 hw) (w118 hw) (w117 hw) (w32 hw) (w119 hw) (Hp.exa mp1) (c35_getScope hw hs (p1 := p1) (p2 := p2) (p3 := p3) (p4 := p4) (p5 := p5) (p6 := p6) (p7 := p8) (u1 := u1) (hu1 := hu1) (mp1 := mp1)) (by decide) pd__Ljava_lang_String_ rfl rfl rfl rfl (by decide) (fun v D' h => ?_)
  obtain ⟨rfl, rfl⟩ := h
  show W _ _ _ _ _ _ _ _ _ _ _ _ 4 _ [(vr p6)]
  refine W.ldcT (pc := 4) 36 (vs := [(vi 115), (vi 105), (vi 110), (vi 103), (vi 108), (vi 101), (vi 116), (vi 111), (vi 110)]) rfl d18_4 (w122 hw) (wS hw) m1 tx_73696e676c65746f6e (by decide) (by decide) (by decide) (fun a1 a2 => ?_)
  show W _ _ _ _ _ _ _ _ _ _ _ _ 6 _ [(vr a1), (vr p6)]
  refine W.callV (pc := 6) (as := [(vr a1)]) 0 [] d18_6 (w134 hw) (w124 hw) (w126 hw) (w126 hw) (w125 hw) (w3 hw) (w127 hw) (Hp.exa (mS (mS mp6))) (c28_equals hw hs (p1 := p6) (p2 := a1) (p3 := p8) (p4 := a2) (mp1 := (mS (mS mp6))) (mp2 := m0) (mp3 := (mS (mS mp8))) (mp4 := m1)) (by decide) pd_Ljava_lang_Object__Z rfl rfl rfl rfl (by decide) (fun v D' h => ?_)
  obtain ⟨rfl, rfl⟩ := h
  show W _ _ _ _ _ _ _ _ _ _ _ _ 9 _ [(vi 0)]
  refine W.dropAt 0 (D' := (a2, false, ar "" .byte [(vi 115), (vi 105), (vi 110), (vi 103), (vi 108), (vi 101), (vi 116), (vi 111), (vi 110)]) :: F) rfl ?_
  refine W.dropAt 0 (D' := F) rfl ?_
  exact W.ireturn (pc := 9) d18_9 rfl (Or.inr (Or.inl rfl)) (nw_bool (by decide)) (by decide) ⟨rfl, rfl⟩
theorem c37_requireNonNull {Z a0} (hw : HW a0 Z) (hs : SF Z) {p1 p2 p3 p4 : Addr} {F : List Ent} : Con Z EL (⟨"java/util/Objects", "requireNonNull", "(Ljava/lang/Object;Ljava/lang/String;)Ljava/lang/Object;"⟩ : MethodName) jdk_31_method_11_code 2 (Option.some (Jvm.ClassFile.FieldType.object "java/lang/Object")) (rmm 0 0 0 0) [(vr p1), (vr p2)] (F) (fun v D' => (v = some (vr p1) ∧ F = D')) := by
  refine Con.of (ls := #[rv p1, rv p2]) (by decide +kernel) rfl ?_
  show W Z EL _ "java/util/Objects" "requireNonNull" _ _ _ _ _ _ _ _ _ _
  refine W.aloadN (pc := 0) d15_0 rfl rfl ?_
  refine W.ifnonnullY (pc := 1) 13 d15_1 (by decide) ?_
  refine W.aloadN (pc := 13) d15_13 rfl rfl ?_
  exact W.areturn (pc := 14) d15_14 rfl rfl rfl (by decide) ⟨rfl, rfl⟩
theorem c36_setScope {Z a0} (hw : HW a0 Z) (hs : SF Z) {p1 p2 p3 p4 p5 p6 p7 p8 : Addr} {x1 : Int32} (hx1 : -128 ≤ x1.toInt ∧ x1.toInt ≤ 127) {x2 : Int32} (hx2 : -128 ≤ x2.toInt ∧ x2.toInt ≤ 127) {u1 : Value} (hu1 : u1.isRef = true) {w_p2 : Bool} {w_p7 : Bool} {ad_p7 : String} {F : List Ent} (mp2 : (p2, w_p2, oString (vr p7) (vi 0)) ∈ F) (mp7 : (p7, w_p7, ar ad_p7 .byte [(vi 115), (vi 105), (vi 110), (vi 103), (vi 108), (vi 101), (vi 116), (vi 111), (vi 110)]) ∈ F) : Con Z EL (⟨"com/example/montaje/montaje/beans/BeanDefinition", "setScope", "(Ljava/lang/String;)V"⟩ : MethodName) prog_4_method_9_code 2 (Option.none : Option Jvm.ClassFile.FieldType) (rmm 2 4 64 28) [(vr p1), (vr p2)] ((p1, true, oBeanDefinition (vr (g1 Z)) (vr p3) (vr p4) (vr p5) u1 (vr p6) .null) :: F) (fun v D' => (v = none ∧ (p1, true, oBeanDefinition (vr (g1 Z)) (vr p3) (vr p4) (vr p5) u1 (vr p6) (vr p2)) :: F = D')) := by
  refine Con.of (ls := #[rv p1, rv p2]) (by decide +kernel) rfl ?_
  show W Z EL _ "com/example/montaje/montaje/beans/BeanDefinition" "setScope" _ _ _ _ _ _ _ _ _ _
  refine W.aloadN (pc := 0) d19_0 rfl rfl ?_
  refine W.ldcT (pc := 1) 20 (vs := [(vi 115), (vi 99), (vi 111), (vi 112), (vi 101)]) rfl d19_1 (w140 hw) (wS hw) m2 tx_73636f7065 (by decide) (by decide) (by decide) (fun a1 a2 => ?_)
  show W _ _ _ _ _ _ _ _ _ _ _ _ 3 _ [(vr a1), (vr p2)]
  refine W.callS (pc := 3) (as := [(vr p2), (vr a1)]) 0 [] d19_3 (w106 hw) (w107 hw) (w108 hw) (w109 hw) (c37_requireNonNull hw hs (p1 := p2) (p2 := a1) (p3 := p7) (p4 := a2)) (by decide) pd_Ljava_lang_Object_Ljava_lang_String__Ljava_lang_Object_ rfl rfl rfl rfl (by decide) (fun v D' h => ?_)
  obtain ⟨rfl, rfl⟩ := h
  show W _ _ _ _ _ _ _ _ _ _ _ _ 6 _ [(vr p2)]
  refine W.popv (pc := 6) d19_6 rfl ?_
  refine W.aloadN (pc := 7) d19_7 rfl rfl ?_
  refine W.ldcT (pc := 8) 36 (vs := [(vi 115), (vi 105), (vi 110), (vi 103), (vi 108), (vi 101), (vi 116), (vi 111), (vi 110)]) rfl d19_8 (w122 hw) (wS hw) m1 tx_73696e676c65746f6e (by decide) (by decide) (by decide) (fun a3 a4 => ?_)
  show W _ _ _ _ _ _ _ _ _ _ _ _ 10 _ [(vr a3), (vr p2)]
  refine W.callV (pc := 10) (as := [(vr a3)]) 0 [] d19_10 (w134 hw) (w124 hw) (w126 hw) (w126 hw) (w125 hw) (w3 hw) (w127 hw) (Hp.exa (mS (mS (mS (mS (mS mp2)))))) (c22_equals hw hs (p1 := p2) (p2 := a3) (p3 := p7) (p4 := a4) (mp2 := m0) (mp1 := (mS (mS (mS (mS (mS mp2)))))) (mp3 := (mS (mS (mS (mS (mS mp7)))))) (mp4 := m1)) (by decide) pd_Ljava_lang_Object__Z rfl rfl rfl rfl (by decide) (fun v D' h => ?_)
  obtain ⟨rfl, rfl⟩ := h
  show W _ _ _ _ _ _ _ _ _ _ _ _ 13 _ [(vi 1)]
  refine W.ifY (pc := 13) 39 d19_13 (y_ne (by decide)) (by decide) ?_
  refine W.aloadN (pc := 39) d19_39 rfl rfl ?_
  refine W.aloadN (pc := 40) d19_40 rfl rfl ?_
  refine W.putf (pc := 41) (D' := (a3, false, oString (vr a4) (vi 0)) :: (a4, false, ar "" .byte [(vi 115), (vi 105), (vi 110), (vi 103), (vi 108), (vi 101), (vi 116), (vi 111), (vi 110)]) :: (a1, false, oString (vr a2) (vi 0)) :: (a2, false, ar "" .byte [(vi 115), (vi 99), (vi 111), (vi 112), (vi 101)]) :: (p1, true, oBeanDefinition (vr (g1 Z)) (vr p3) (vr p4) (vr p5) u1 (vr p6) (vr p2)) :: F) 4 6 d19_41 (w120 hw) Via.refl rfl rfl (Or.inl (w121 hw)) (w31 hw) pfLjava_lang_String_ rfl rfl rfl ?_
  refine W.dropAt 0 (D' := (a4, false, ar "" .byte [(vi 115), (vi 105), (vi 110), (vi 103), (vi 108), (vi 101), (vi 116), (vi 111), (vi 110)]) :: (a1, false, oString (vr a2) (vi 0)) :: (a2, false, ar "" .byte [(vi 115), (vi 99), (vi 111), (vi 112), (vi 101)]) :: (p1, true, oBeanDefinition (vr (g1 Z)) (vr p3) (vr p4) (vr p5) u1 (vr p6) (vr p2)) :: F) rfl ?_
  refine W.dropAt 0 (D' := (a1, false, oString (vr a2) (vi 0)) :: (a2, false, ar "" .byte [(vi 115), (vi 99), (vi 111), (vi 112), (vi 101)]) :: (p1, true, oBeanDefinition (vr (g1 Z)) (vr p3) (vr p4) (vr p5) u1 (vr p6) (vr p2)) :: F) rfl ?_
  refine W.dropAt 0 (D' := (a2, false, ar "" .byte [(vi 115), (vi 99), (vi 111), (vi 112), (vi 101)]) :: (p1, true, oBeanDefinition (vr (g1 Z)) (vr p3) (vr p4) (vr p5) u1 (vr p6) (vr p2)) :: F) rfl ?_
  refine W.dropAt 0 (D' := (p1, true, oBeanDefinition (vr (g1 Z)) (vr p3) (vr p4) (vr p5) u1 (vr p6) (vr p2)) :: F) rfl ?_
  exact W.return_ (pc := 44) d19_44 rfl (by decide) ⟨rfl, rfl⟩
theorem c38_getScope {Z a0} (hw : HW a0 Z) (hs : SF Z) {p1 p2 p3 p4 p5 p6 p7 p8 : Addr} {x1 : Int32} (hx1 : -128 ≤ x1.toInt ∧ x1.toInt ≤ 127) {x2 : Int32} (hx2 : -128 ≤ x2.toInt ∧ x2.toInt ≤ 127) {u1 : Value} (hu1 : u1.isRef = true) {w_p1 : Bool} {F : List Ent} (mp1 : (p1, w_p1, oBeanDefinition (vr (g1 Z)) (vr p2) (vr p3) (vr p4) u1 (vr p5) (vr p6)) ∈ F) : Con Z EL (⟨"com/example/montaje/montaje/beans/BeanDefinition", "getScope", "()Ljava/lang/String;"⟩ : MethodName) prog_4_method_8_code 1 (Option.some (Jvm.ClassFile.FieldType.object "java/lang/String")) (rmm 0 0 0 0) [(vr p1)] (F) (fun v D' => (v = some (vr p6) ∧ F = D')) := by
  refine Con.of (ls := #[rv p1]) (by decide +kernel) rfl ?_
  show W Z EL _ "com/example/montaje/montaje/beans/BeanDefinition" "getScope" _ _ _ _ _ _ _ _ _ _
  refine W.aloadN (pc := 0) d16_0 rfl rfl ?_
  refine W.getf (pc := 1) d16_1 (w120 hw) Via.refl mp1 m6 ?_
  refine W.ifnonnullY (pc := 4) 12 d16_4 (by decide) ?_
  refine W.aloadN (pc := 12) d16_12 rfl rfl ?_
  refine W.getf (pc := 13) d16_13 (w120 hw) Via.refl mp1 m6 ?_
  exact W.areturn (pc := 16) d16_16 rfl rfl rfl (by decide) ⟨rfl, rfl⟩
theorem c39_equals {Z a0} (hw : HW a0 Z) (hs : SF Z) {p1 p2 : Addr} {F : List Ent} : Con Z EL (⟨"java/lang/String", "equals", "(Ljava/lang/Object;)Z"⟩ : MethodName) jdk_42_method_66_code 3 (Option.some Jvm.ClassFile.FieldType.boolean) (rmm 0 0 0 0) [(vr p1), (vr p1)] (F) (fun v D' => (v = some (vi 1) ∧ F = D')) := by
  refine Con.of (ls := #[rv p1, rv p1, uu]) (by decide +kernel) rfl ?_
  show W Z EL _ "java/lang/String" "equals" _ _ _ _ _ _ _ _ _ _
  refine W.aloadN (pc := 0) d17_0 rfl rfl ?_
  refine W.aloadN (pc := 1) d17_1 rfl rfl ?_
  refine W.acmpN (pc := 2) d17_2 rfl rfl (fun z => z rfl) ?_
  refine W.iconst (pc := 5) (1) d17_5 (by decide) ?_
  exact W.ireturn (pc := 6) d17_6 rfl (Or.inr (Or.inl rfl)) (nw_bool (by decide)) (by decide) ⟨rfl, rfl⟩
theorem c41_getScope {Z a0} (hw : HW a0 Z) (hs : SF Z) {p1 p2 p3 p4 p5 p6 p7 : Addr} {u1 : Value} (hu1 : u1.isRef = true) {w_p1 : Bool} {F : List Ent} (mp1 : (p1, w_p1, oBeanDefinition (vr (g1 Z)) (vr p2) (vr p3) (vr p4) u1 (vr p5) (vr p6)) ∈ F) : Con Z EL (⟨"com/example/montaje/montaje/beans/BeanDefinition", "getScope", "()Ljava/lang/String;"⟩ : MethodName) prog_4_method_8_code 1 (Option.some (Jvm.ClassFile.FieldType.object "java/lang/String")) (rmm 0 0 0 0) [(vr p1)] (F) (fun v D' => (v = some (vr p6) ∧ F = D')) := by
  refine Con.of (ls := #[rv p1]) (by decide +kernel) rfl ?_
  show W Z EL _ "com/example/montaje/montaje/beans/BeanDefinition" "getScope" _ _ _ _ _ _ _ _ _ _
  refine W.aloadN (pc := 0) d16_0 rfl rfl ?_
  refine W.getf (pc := 1) d16_1 (w120 hw) Via.refl mp1 m6 ?_
  refine W.ifnonnullY (pc := 4) 12 d16_4 (by decide) ?_
  refine W.aloadN (pc := 12) d16_12 rfl rfl ?_
  refine W.getf (pc := 13) d16_13 (w120 hw) Via.refl mp1 m6 ?_
  exact W.areturn (pc := 16) d16_16 rfl rfl rfl (by decide) ⟨rfl, rfl⟩
theorem c40_isSingleton {Z a0} (hw : HW a0 Z) (hs : SF Z) {p1 p2 p3 p4 p5 p6 p7 p8 : Addr} {x1 : Int32} (hx1 : -128 ≤ x1.toInt ∧ x1.toInt ≤ 127) {x2 : Int32} (hx2 : -128 ≤ x2.toInt ∧ x2.toInt ≤ 127) {u1 : Value} (hu1 : u1.isRef = true) {w_p1 : Bool} {w_p6 : Bool} {w_p8 : Bool} {ad_p8 : String} {F : List Ent} (mp1 : (p1, w_p1, oBeanDefinition (vr (g1 Z)) (vr p2) (vr p3) (vr p4) u1 (vr p5) (vr p6)) ∈ F) (mp6 : (p6, w_p6, oString (vr p8) (vi 0)) ∈ F) (mp8 : (p8, w_p8, ar ad_p8 .byte [(vi 115), (vi 105), (vi 110), (vi 103), (vi 108), (vi 101), (vi 116), (vi 111), (vi 110)]) ∈ F) : Con Z EL (⟨"com/example/montaje/montaje/beans/BeanDefinition", "isSingleton", "()Z"⟩ : MethodName) prog_4_method_30_code 1 (Option.some Jvm.ClassFile.FieldType.boolean) (rmm 2 2 40 28) [(vr p1)] (F) (fun v D' => (v = some (vi 1) ∧ F = D')) := by
  refine Con.of (ls := #[rv p1]) (by decide +kernel) rfl ?_
  show W Z EL _ "com/example/montaje/montaje/beans/BeanDefinition" "isSingleton" _ _ _ _ _ _ _ _ _ _
  refine W.aloadN (pc := 0) d18_0 rfl rfl ?_
  refine W.callV (pc := 1) (as := []) 0 [] d18_1 (w133 hw) (w116 hw) (w118 hw) (w118 hw) (w117 hw) (w32 hw) (w119 hw) (Hp.exa mp1) (c41_getScope hw hs (p1 := p1) (p2 := p2) (p3 := p3) (p4 := p4) (p5 := p5) (p6 := p6) (p7 := p8) (u1 := u1) (hu1 := hu1) (mp1 := mp1)) (by decide) pd__Ljava_lang_String_ rfl rfl rfl rfl (by decide) (fun v D' h => ?_)
  obtain ⟨rfl, rfl⟩ := h
  show W _ _ _ _ _ _ _ _ _ _ _ _ 4 _ [(vr p6)]
  refine W.ldcT (pc := 4) 36 (vs := [(vi 115), (vi 105), (vi 110), (vi 103), (vi 108), (vi 101), (vi 116), (vi 111), (vi 110)]) rfl d18_4 (w122 hw) (wS hw) m1 tx_73696e676c65746f6e (by decide) (by decide) (by decide) (fun a1 a2 => ?_)
  show W _ _ _ _ _ _ _ _ _ _ _ _ 6 _ [(vr a1), (vr p6)]
  refine W.callV (pc := 6) (as := [(vr a1)]) 0 [] d18_6 (w134 hw) (w124 hw) (w126 hw) (w126 hw) (w125 hw) (w3 hw) (w127 hw) (Hp.exa (mS (mS mp6))) (c22_equals hw hs (p1 := p6) (p2 := a1) (p3 := p8) (p4 := a2) (mp2 := m0) (mp1 := (mS (mS mp6))) (mp3 := (mS (mS mp8))) (mp4 := m1)) (by decide) pd_Ljava_lang_Object__Z rfl rfl rfl rfl (by decide) (fun v D' h => ?_)
  obtain ⟨rfl, rfl⟩ := h
  show W _ _ _ _ _ _ _ _ _ _ _ _ 9 _ [(vi 1)]
  refine W.dropAt 0 (D' := (a2, false, ar "" .byte [(vi 115), (vi 105), (vi 110), (vi 103), (vi 108), (vi 101), (vi 116), (vi 111), (vi 110)]) :: F) rfl ?_
  refine W.dropAt 0 (D' := F) rfl ?_
  exact W.ireturn (pc := 9) d18_9 rfl (Or.inr (Or.inl rfl)) (nw_bool (by decide)) (by decide) ⟨rfl, rfl⟩
theorem c42_setScope {Z a0} (hw : HW a0 Z) (hs : SF Z) {p1 p2 p3 p4 p5 p6 p7 p8 p9 p10 : Addr} {x1 : Int32} (hx1 : -128 ≤ x1.toInt ∧ x1.toInt ≤ 127) {x2 : Int32} (hx2 : -128 ≤ x2.toInt ∧ x2.toInt ≤ 127) {u1 : Value} (hu1 : u1.isRef = true) {w_p2 : Bool} {w_p8 : Bool} {ad_p8 : String} {F : List Ent} (mp2 : (p2, w_p2, oString (vr p8) (vi 0)) ∈ F) (mp8 : (p8, w_p8, ar ad_p8 .byte [(vi 112), (vi 114), (vi 111), (vi 116), (vi 111), (vi 116), (vi 121), (vi 112), (vi 101)]) ∈ F) : Con Z EL (⟨"com/example/montaje/montaje/beans/BeanDefinition", "setScope", "(Ljava/lang/String;)V"⟩ : MethodName) prog_4_method_9_code 2 (Option.none : Option Jvm.ClassFile.FieldType) (rmm 2 6 104 28) [(vr p1), (vr p2)] ((p1, true, oBeanDefinition (vr (g1 Z)) (vr p3) (vr p4) (vr p5) u1 (vr p6) (vr p7)) :: F) (fun v D' => (v = none ∧ (p1, true, oBeanDefinition (vr (g1 Z)) (vr p3) (vr p4) (vr p5) u1 (vr p6) (vr p2)) :: F = D')) := by
  refine Con.of (ls := #[rv p1, rv p2]) (by decide +kernel) rfl ?_
  show W Z EL _ "com/example/montaje/montaje/beans/BeanDefinition" "setScope" _ _ _ _ _ _ _ _ _ _
  refine W.aloadN (pc := 0) d19_0 rfl rfl ?_
  refine W.ldcT (pc := 1) 20 (vs := [(vi 115), (vi 99), (vi 111), (vi 112), (vi 101)]) rfl d19_1 (w140 hw) (wS hw) m2 tx_73636f7065 (by decide) (by decide) (by decide) (fun a1 a2 => ?_)
  show W _ _ _ _ _ _ _ _ _ _ _ _ 3 _ [(vr a1), (vr p2)]
  refine W.callS (pc := 3) (as := [(vr p2), (vr a1)]) 0 [] d19_3 (w106 hw) (w107 hw) (w108 hw) (w109 hw) (c27_requireNonNull hw hs (p1 := p2) (p2 := a1) (p3 := p8) (p4 := a2)) (by decide) pd_Ljava_lang_Object_Ljava_lang_String__Ljava_lang_Object_ rfl rfl rfl rfl (by decide) (fun v D' h => ?_)
  obtain ⟨rfl, rfl⟩ := h
  show W _ _ _ _ _ _ _ _ _ _ _ _ 6 _ [(vr p2)]
  refine W.popv (pc := 6) d19_6 rfl ?_
  refine W.aloadN (pc := 7) d19_7 rfl rfl ?_
  refine W.ldcT (pc := 8) 36 (vs := [(vi 115), (vi 105), (vi 110), (vi 103), (vi 108), (vi 101), (vi 116), (vi 111), (vi 110)]) rfl d19_8 (w122 hw) (wS hw) m1 tx_73696e676c65746f6e (by decide) (by decide) (by decide) (fun a3 a4 => ?_)
  show W _ _ _ _ _ _ _ _ _ _ _ _ 10 _ [(vr a3), (vr p2)]
  refine W.callV (pc := 10) (as := [(vr a3)]) 0 [] d19_10 (w134 hw) (w124 hw) (w126 hw) (w126 hw) (w125 hw) (w3 hw) (w127 hw) (Hp.exa (mS (mS (mS (mS (mS mp2)))))) (c28_equals hw hs (p1 := p2) (p2 := a3) (p3 := p8) (p4 := a4) (mp1 := (mS (mS (mS (mS (mS mp2)))))) (mp2 := m0) (mp3 := (mS (mS (mS (mS (mS mp8)))))) (mp4 := m1)) (by decide) pd_Ljava_lang_Object__Z rfl rfl rfl rfl (by decide) (fun v D' h => ?_)
  obtain ⟨rfl, rfl⟩ := h
  show W _ _ _ _ _ _ _ _ _ _ _ _ 13 _ [(vi 0)]
  refine W.ifN (pc := 13) d19_13 (n_ne (by decide)) ?_
  refine W.aloadN (pc := 16) d19_16 rfl rfl ?_
  refine W.ldcT (pc := 17) 36 (vs := [(vi 112), (vi 114), (vi 111), (vi 116), (vi 111), (vi 116), (vi 121), (vi 112), (vi 101)]) rfl d19_17 (w147 hw) (wS hw) m3 tx_70726f746f74797065 (by decide) (by decide) (by decide) (fun a5 a6 => ?_)
  show W _ _ _ _ _ _ _ _ _ _ _ _ 19 _ [(vr a5), (vr p2)]
  refine W.callV (pc := 19) (as := [(vr a5)]) 0 [] d19_19 (w134 hw) (w124 hw) (w126 hw) (w126 hw) (w125 hw) (w3 hw) (w127 hw) (Hp.exa (mS (mS (mS (mS (mS (mS (mS mp2)))))))) (c30_equals hw hs (p1 := p2) (p2 := a5) (p3 := p8) (p4 := a6) (mp2 := m0) (mp1 := (mS (mS (mS (mS (mS (mS (mS mp2)))))))) (mp3 := (mS (mS (mS (mS (mS (mS (mS mp8)))))))) (mp4 := m1)) (by decide) pd_Ljava_lang_Object__Z rfl rfl rfl rfl (by decide) (fun v D' h => ?_)
  obtain ⟨rfl, rfl⟩ := h
  show W _ _ _ _ _ _ _ _ _ _ _ _ 22 _ [(vi 1)]
  refine W.ifY (pc := 22) 39 d19_22 (y_ne (by decide)) (by decide) ?_
  refine W.aloadN (pc := 39) d19_39 rfl rfl ?_
  refine W.aloadN (pc := 40) d19_40 rfl rfl ?_
  refine W.putf (pc := 41) (D' := (a5, false, oString (vr a6) (vi 0)) :: (a6, false, ar "" .byte [(vi 112), (vi 114), (vi 111), (vi 116), (vi 111), (vi 116), (vi 121), (vi 112), (vi 101)]) :: (a3, false, oString (vr a4) (vi 0)) :: (a4, false, ar "" .byte [(vi 115), (vi 105), (vi 110), (vi 103), (vi 108), (vi 101), (vi 116), (vi 111), (vi 110)]) :: (a1, false, oString (vr a2) (vi 0)) :: (a2, false, ar "" .byte [(vi 115), (vi 99), (vi 111), (vi 112), (vi 101)]) :: (p1, true, oBeanDefinition (vr (g1 Z)) (vr p3) (vr p4) (vr p5) u1 (vr p6) (vr p2)) :: F) 6 6 d19_41 (w120 hw) Via.refl rfl rfl (Or.inl (w121 hw)) (w31 hw) pfLjava_lang_String_ rfl rfl rfl ?_
  refine W.dropAt 0 (D' := (a6, false, ar "" .byte [(vi 112), (vi 114), (vi 111), (vi 116), (vi 111), (vi 116), (vi 121), (vi 112), (vi 101)]) :: (a3, false, oString (vr a4) (vi 0)) :: (a4, false, ar "" .byte [(vi 115), (vi 105), (vi 110), (vi 103), (vi 108), (vi 101), (vi 116), (vi 111), (vi 110)]) :: (a1, false, oString (vr a2) (vi 0)) :: (a2, false, ar "" .byte [(vi 115), (vi 99), (vi 111), (vi 112), (vi 101)]) :: (p1, true, oBeanDefinition (vr (g1 Z)) (vr p3) (vr p4) (vr p5) u1 (vr p6) (vr p2)) :: F) rfl ?_
  refine W.dropAt 0 (D' := (a3, false, oString (vr a4) (vi 0)) :: (a4, false, ar "" .byte [(vi 115), (vi 105), (vi 110), (vi 103), (vi 108), (vi 101), (vi 116), (vi 111), (vi 110)]) :: (a1, false, oString (vr a2) (vi 0)) :: (a2, false, ar "" .byte [(vi 115), (vi 99), (vi 111), (vi 112), (vi 101)]) :: (p1, true, oBeanDefinition (vr (g1 Z)) (vr p3) (vr p4) (vr p5) u1 (vr p6) (vr p2)) :: F) rfl ?_
  refine W.dropAt 0 (D' := (a4, false, ar "" .byte [(vi 115), (vi 105), (vi 110), (vi 103), (vi 108), (vi 101), (vi 116), (vi 111), (vi 110)]) :: (a1, false, oString (vr a2) (vi 0)) :: (a2, false, ar "" .byte [(vi 115), (vi 99), (vi 111), (vi 112), (vi 101)]) :: (p1, true, oBeanDefinition (vr (g1 Z)) (vr p3) (vr p4) (vr p5) u1 (vr p6) (vr p2)) :: F) rfl ?_
  refine W.dropAt 0 (D' := (a1, false, oString (vr a2) (vi 0)) :: (a2, false, ar "" .byte [(vi 115), (vi 99), (vi 111), (vi 112), (vi 101)]) :: (p1, true, oBeanDefinition (vr (g1 Z)) (vr p3) (vr p4) (vr p5) u1 (vr p6) (vr p2)) :: F) rfl ?_
  refine W.dropAt 0 (D' := (a2, false, ar "" .byte [(vi 115), (vi 99), (vi 111), (vi 112), (vi 101)]) :: (p1, true, oBeanDefinition (vr (g1 Z)) (vr p3) (vr p4) (vr p5) u1 (vr p6) (vr p2)) :: F) rfl ?_
  refine W.dropAt 0 (D' := (p1, true, oBeanDefinition (vr (g1 Z)) (vr p3) (vr p4) (vr p5) u1 (vr p6) (vr p2)) :: F) rfl ?_
  exact W.return_ (pc := 44) d19_44 rfl (by decide) ⟨rfl, rfl⟩
theorem c43_setScope {Z a0} (hw : HW a0 Z) (hs : SF Z) {p1 p2 p3 p4 p5 p6 p7 p8 p9 p10 : Addr} {x1 : Int32} (hx1 : -128 ≤ x1.toInt ∧ x1.toInt ≤ 127) {x2 : Int32} (hx2 : -128 ≤ x2.toInt ∧ x2.toInt ≤ 127) {u1 : Value} (hu1 : u1.isRef = true) {w_p2 : Bool} {w_p8 : Bool} {ad_p8 : String} {F : List Ent} (mp2 : (p2, w_p2, oString (vr p8) (vi 0)) ∈ F) (mp8 : (p8, w_p8, ar ad_p8 .byte [(vi 115), (vi 105), (vi 110), (vi 103), (vi 108), (vi 101), (vi 116), (vi 111), (vi 110)]) ∈ F) : Con Z EL (⟨"com/example/montaje/montaje/beans/BeanDefinition", "setScope", "(Ljava/lang/String;)V"⟩ : MethodName) prog_4_method_9_code 2 (Option.none : Option Jvm.ClassFile.FieldType) (rmm 2 4 64 28) [(vr p1), (vr p2)] ((p1, true, oBeanDefinition (vr (g1 Z)) (vr p3) (vr p4) (vr p5) u1 (vr p6) (vr p7)) :: F) (fun v D' => (v = none ∧ (p1, true, oBeanDefinition (vr (g1 Z)) (vr p3) (vr p4) (vr p5) u1 (vr p6) (vr p2)) :: F = D')) := by
  refine Con.of (ls := #[rv p1, rv p2]) (by decide +kernel) rfl ?_
  show W Z EL _ "com/example/montaje/montaje/beans/BeanDefinition" "setScope" _ _ _ _ _ _ _ _ _ _
  refine W.aloadN (pc := 0) d19_0 rfl rfl ?_
  refine W.ldcT (pc := 1) 20 (vs := [(vi 115), (vi 99), (vi 111), (vi 112), (vi 101)]) rfl d19_1 (w140 hw) (wS hw) m2 tx_73636f7065 (by decide) (by decide) (by decide) (fun a1 a2 => ?_)
  show W _ _ _ _ _ _ _ _ _ _ _ _ 3 _ [(vr a1), (vr p2)]
  refine W.callS (pc := 3) (as := [(vr p2), (vr a1)]) 0 [] d19_3 (w106 hw) (w107 hw) (w108 hw) (w109 hw) (c37_requireNonNull hw hs (p1 := p2) (p2 := a1) (p3 := p8) (p4 := a2)) (by decide) pd_Ljava_lang_Object_Ljava_lang_String__Ljava_lang_Object_ rfl rfl rfl rfl (by decide) (fun v D' h => ?_)
  obtain ⟨rfl, rfl⟩ := h
  show W _ _ _ _ _ _ _ _ _ _ _ _ 6 _ [(vr p2)]
  refine W.popv (pc := 6) d19_6 rfl ?_
  refine W.aloadN (pc := 7) d19_7 rfl rfl ?_
  refine W.ldcT (pc := 8) 36 (vs := [(vi 115), (vi 105), (vi 110), (vi 103), (vi 108), (vi 101), (vi 116), (vi 111), (vi 110)]) rfl d19_8 (w122 hw) (wS hw) m1 tx_73696e676c65746f6e (by decide) (by decide) (by decide) (fun a3 a4 => ?_)
  show W _ _ _ _ _ _ _ _ _ _ _ _ 10 _ [(vr a3), (vr p2)]
  refine W.callV (pc := 10) (as := [(vr a3)]) 0 [] d19_10 (w134 hw) (w124 hw) (w126 hw) (w126 hw) (w125 hw) (w3 hw) (w127 hw) (Hp.exa (mS (mS (mS (mS (mS mp2)))))) (c22_equals hw hs (p1 := p2) (p2 := a3) (p3 := p8) (p4 := a4) (mp2 := m0) (mp1 := (mS (mS (mS (mS (mS mp2)))))) (mp3 := (mS (mS (mS (mS (mS mp8)))))) (mp4 := m1)) (by decide) pd_Ljava_lang_Object__Z rfl rfl rfl rfl (by decide) (fun v D' h => ?_)
  obtain ⟨rfl, rfl⟩ := h
  show W _ _ _ _ _ _ _ _ _ _ _ _ 13 _ [(vi 1)]
  refine W.ifY (pc := 13) 39 d19_13 (y_ne (by decide)) (by decide) ?_
  refine W.aloadN (pc := 39) d19_39 rfl rfl ?_
  refine W.aloadN (pc := 40) d19_40 rfl rfl ?_
  refine W.putf (pc := 41) (D' := (a3, false, oString (vr a4) (vi 0)) :: (a4, false, ar "" .byte [(vi 115), (vi 105), (vi 110), (vi 103), (vi 108), (vi 101), (vi 116), (vi 111), (vi 110)]) :: (a1, false, oString (vr a2) (vi 0)) :: (a2, false, ar "" .byte [(vi 115), (vi 99), (vi 111), (vi 112), (vi 101)]) :: (p1, true, oBeanDefinition (vr (g1 Z)) (vr p3) (vr p4) (vr p5) u1 (vr p6) (vr p2)) :: F) 4 6 d19_41 (w120 hw) Via.refl rfl rfl (Or.inl (w121 hw)) (w31 hw) pfLjava_lang_String_ rfl rfl rfl ?_
  refine W.dropAt 0 (D' := (a4, false, ar "" .byte [(vi 115), (vi 105), (vi 110), (vi 103), (vi 108), (vi 101), (vi 116), (vi 111), (vi 110)]) :: (a1, false, oString (vr a2) (vi 0)) :: (a2, false, ar "" .byte [(vi 115), (vi 99), (vi 111), (vi 112), (vi 101)]) :: (p1, true, oBeanDefinition (vr (g1 Z)) (vr p3) (vr p4) (vr p5) u1 (vr p6) (vr p2)) :: F) rfl ?_
  refine W.dropAt 0 (D' := (a1, false, oString (vr a2) (vi 0)) :: (a2, false, ar "" .byte [(vi 115), (vi 99), (vi 111), (vi 112), (vi 101)]) :: (p1, true, oBeanDefinition (vr (g1 Z)) (vr p3) (vr p4) (vr p5) u1 (vr p6) (vr p2)) :: F) rfl ?_
  refine W.dropAt 0 (D' := (a2, false, ar "" .byte [(vi 115), (vi 99), (vi 111), (vi 112), (vi 101)]) :: (p1, true, oBeanDefinition (vr (g1 Z)) (vr p3) (vr p4) (vr p5) u1 (vr p6) (vr p2)) :: F) rfl ?_
  refine W.dropAt 0 (D' := (p1, true, oBeanDefinition (vr (g1 Z)) (vr p3) (vr p4) (vr p5) u1 (vr p6) (vr p2)) :: F) rfl ?_
  exact W.return_ (pc := 44) d19_44 rfl (by decide) ⟨rfl, rfl⟩
theorem c44_setScope {Z a0} (hw : HW a0 Z) (hs : SF Z) {p1 p2 p3 p4 p5 p6 p7 p8 p9 p10 : Addr} {x1 : Int32} (hx1 : -128 ≤ x1.toInt ∧ x1.toInt ≤ 127) {x2 : Int32} (hx2 : -128 ≤ x2.toInt ∧ x2.toInt ≤ 127) {u1 : Value} (hu1 : u1.isRef = true) {w_p2 : Bool} {w_p8 : Bool} {ad_p8 : String} {F : List Ent} (mp2 : (p2, w_p2, oString (vr p8) (vi 0)) ∈ F) (mp8 : (p8, w_p8, ar ad_p8 .byte [(vi 112), (vi 114), (vi 111), (vi 116), (vi 111), (vi 116), (vi 121), (vi 112), (vi 101)]) ∈ F) : Con Z EL (⟨"com/example/montaje/montaje/beans/BeanDefinition", "setScope", "(Ljava/lang/String;)V"⟩ : MethodName) prog_4_method_9_code 2 (Option.none : Option Jvm.ClassFile.FieldType) (rmm 2 6 104 28) [(vr p1), (vr p2)] ((p1, true, oBeanDefinition (vr (g1 Z)) (vr p3) (vr p4) (vr p5) u1 (vr p6) (vr p7)) :: F) (fun v D' => (v = none ∧ (p1, true, oBeanDefinition (vr (g1 Z)) (vr p3) (vr p4) (vr p5) u1 (vr p6) (vr p2)) :: F = D')) := by
  refine Con.of (ls := #[rv p1, rv p2]) (by decide +kernel) rfl ?_
  show W Z EL _ "com/example/montaje/montaje/beans/BeanDefinition" "setScope" _ _ _ _ _ _ _ _ _ _
  refine W.aloadN (pc := 0) d19_0 rfl rfl ?_
  refine W.ldcT (pc := 1) 20 (vs := [(vi 115), (vi 99), (vi 111), (vi 112), (vi 101)]) rfl d19_1 (w140 hw) (wS hw) m2 tx_73636f7065 (by decide) (by decide) (by decide) (fun a1 a2 => ?_)
  show W _ _ _ _ _ _ _ _ _ _ _ _ 3 _ [(vr a1), (vr p2)]
  refine W.callS (pc := 3) (as := [(vr p2), (vr a1)]) 0 [] d19_3 (w106 hw) (w107 hw) (w108 hw) (w109 hw) (c27_requireNonNull hw hs (p1 := p2) (p2 := a1) (p3 := p8) (p4 := a2)) (by decide) pd_Ljava_lang_Object_Ljava_lang_String__Ljava_lang_Object_ rfl rfl rfl rfl (by decide) (fun v D' h => ?_)
  obtain ⟨rfl, rfl⟩ := h
  show W _ _ _ _ _ _ _ _ _ _ _ _ 6 _ [(vr p2)]
  refine W.popv (pc := 6) d19_6 rfl ?_
  refine W.aloadN (pc := 7) d19_7 rfl rfl ?_
  refine W.ldcT (pc := 8) 36 (vs := [(vi 115), (vi 105), (vi 110), (vi 103), (vi 108), (vi 101), (vi 116), (vi 111), (vi 110)]) rfl d19_8 (w122 hw) (wS hw) m1 tx_73696e676c65746f6e (by decide) (by decide) (by decide) (fun a3 a4 => ?_)
  show W _ _ _ _ _ _ _ _ _ _ _ _ 10 _ [(vr a3), (vr p2)]
  refine W.callV (pc := 10) (as := [(vr a3)]) 0 [] d19_10 (w134 hw) (w124 hw) (w126 hw) (w126 hw) (w125 hw) (w3 hw) (w127 hw) (Hp.exa (mS (mS (mS (mS (mS mp2)))))) (c28_equals hw hs (p1 := p2) (p2 := a3) (p3 := p8) (p4 := a4) (mp1 := (mS (mS (mS (mS (mS mp2)))))) (mp2 := m0) (mp3 := (mS (mS (mS (mS (mS mp8)))))) (mp4 := m1)) (by decide) pd_Ljava_lang_Object__Z rfl rfl rfl rfl (by decide) (fun v D' h => ?_)
  obtain ⟨rfl, rfl⟩ := h
  show W _ _ _ _ _ _ _ _ _ _ _ _ 13 _ [(vi 0)]
  refine W.ifN (pc := 13) d19_13 (n_ne (by decide)) ?_
  refine W.aloadN (pc := 16) d19_16 rfl rfl ?_
  refine W.ldcT (pc := 17) 36 (vs := [(vi 112), (vi 114), (vi 111), (vi 116), (vi 111), (vi 116), (vi 121), (vi 112), (vi 101)]) rfl d19_17 (w147 hw) (wS hw) m3 tx_70726f746f74797065 (by decide) (by decide) (by decide) (fun a5 a6 => ?_)
  show W _ _ _ _ _ _ _ _ _ _ _ _ 19 _ [(vr a5), (vr p2)]
  refine W.callV (pc := 19) (as := [(vr a5)]) 0 [] d19_19 (w134 hw) (w124 hw) (w126 hw) (w126 hw) (w125 hw) (w3 hw) (w127 hw) (Hp.exa (mS (mS (mS (mS (mS (mS (mS mp2)))))))) (c30_equals hw hs (p1 := p2) (p2 := a5) (p3 := p8) (p4 := a6) (mp2 := m0) (mp1 := (mS (mS (mS (mS (mS (mS (mS mp2)))))))) (mp3 := (mS (mS (mS (mS (mS (mS (mS mp8)))))))) (mp4 := m1)) (by decide) pd_Ljava_lang_Object__Z rfl rfl rfl rfl (by decide) (fun v D' h => ?_)
  obtain ⟨rfl, rfl⟩ := h
  show W _ _ _ _ _ _ _ _ _ _ _ _ 22 _ [(vi 1)]
  refine W.ifY (pc := 22) 39 d19_22 (y_ne (by decide)) (by decide) ?_
  refine W.aloadN (pc := 39) d19_39 rfl rfl ?_
  refine W.aloadN (pc := 40) d19_40 rfl rfl ?_
  refine W.putf (pc := 41) (D' := (a5, false, oString (vr a6) (vi 0)) :: (a6, false, ar "" .byte [(vi 112), (vi 114), (vi 111), (vi 116), (vi 111), (vi 116), (vi 121), (vi 112), (vi 101)]) :: (a3, false, oString (vr a4) (vi 0)) :: (a4, false, ar "" .byte [(vi 115), (vi 105), (vi 110), (vi 103), (vi 108), (vi 101), (vi 116), (vi 111), (vi 110)]) :: (a1, false, oString (vr a2) (vi 0)) :: (a2, false, ar "" .byte [(vi 115), (vi 99), (vi 111), (vi 112), (vi 101)]) :: (p1, true, oBeanDefinition (vr (g1 Z)) (vr p3) (vr p4) (vr p5) u1 (vr p6) (vr p2)) :: F) 6 6 d19_41 (w120 hw) Via.refl rfl rfl (Or.inl (w121 hw)) (w31 hw) pfLjava_lang_String_ rfl rfl rfl ?_
  refine W.dropAt 0 (D' := (a6, false, ar "" .byte [(vi 112), (vi 114), (vi 111), (vi 116), (vi 111), (vi 116), (vi 121), (vi 112), (vi 101)]) :: (a3, false, oString (vr a4) (vi 0)) :: (a4, false, ar "" .byte [(vi 115), (vi 105), (vi 110), (vi 103), (vi 108), (vi 101), (vi 116), (vi 111), (vi 110)]) :: (a1, false, oString (vr a2) (vi 0)) :: (a2, false, ar "" .byte [(vi 115), (vi 99), (vi 111), (vi 112), (vi 101)]) :: (p1, true, oBeanDefinition (vr (g1 Z)) (vr p3) (vr p4) (vr p5) u1 (vr p6) (vr p2)) :: F) rfl ?_
  refine W.dropAt 0 (D' := (a3, false, oString (vr a4) (vi 0)) :: (a4, false, ar "" .byte [(vi 115), (vi 105), (vi 110), (vi 103), (vi 108), (vi 101), (vi 116), (vi 111), (vi 110)]) :: (a1, false, oString (vr a2) (vi 0)) :: (a2, false, ar "" .byte [(vi 115), (vi 99), (vi 111), (vi 112), (vi 101)]) :: (p1, true, oBeanDefinition (vr (g1 Z)) (vr p3) (vr p4) (vr p5) u1 (vr p6) (vr p2)) :: F) rfl ?_
  refine W.dropAt 0 (D' := (a4, false, ar "" .byte [(vi 115), (vi 105), (vi 110), (vi 103), (vi 108), (vi 101), (vi 116), (vi 111), (vi 110)]) :: (a1, false, oString (vr a2) (vi 0)) :: (a2, false, ar "" .byte [(vi 115), (vi 99), (vi 111), (vi 112), (vi 101)]) :: (p1, true, oBeanDefinition (vr (g1 Z)) (vr p3) (vr p4) (vr p5) u1 (vr p6) (vr p2)) :: F) rfl ?_
  refine W.dropAt 0 (D' := (a1, false, oString (vr a2) (vi 0)) :: (a2, false, ar "" .byte [(vi 115), (vi 99), (vi 111), (vi 112), (vi 101)]) :: (p1, true, oBeanDefinition (vr (g1 Z)) (vr p3) (vr p4) (vr p5) u1 (vr p6) (vr p2)) :: F) rfl ?_
  refine W.dropAt 0 (D' := (a2, false, ar "" .byte [(vi 115), (vi 99), (vi 111), (vi 112), (vi 101)]) :: (p1, true, oBeanDefinition (vr (g1 Z)) (vr p3) (vr p4) (vr p5) u1 (vr p6) (vr p2)) :: F) rfl ?_
  refine W.dropAt 0 (D' := (p1, true, oBeanDefinition (vr (g1 Z)) (vr p3) (vr p4) (vr p5) u1 (vr p6) (vr p2)) :: F) rfl ?_
  exact W.return_ (pc := 44) d19_44 rfl (by decide) ⟨rfl, rfl⟩
theorem c45_setScope {Z a0} (hw : HW a0 Z) (hs : SF Z) {p1 p2 p3 p4 p5 p6 p7 p8 p9 p10 : Addr} {x1 : Int32} (hx1 : -128 ≤ x1.toInt ∧ x1.toInt ≤ 127) {x2 : Int32} (hx2 : -128 ≤ x2.toInt ∧ x2.toInt ≤ 127) {u1 : Value} (hu1 : u1.isRef = true) {w_p2 : Bool} {w_p8 : Bool} {ad_p8 : String} {F : List Ent} (mp2 : (p2, w_p2, oString (vr p8) (vi 0)) ∈ F) (mp8 : (p8, w_p8, ar ad_p8 .byte [(vi 115), (vi 105), (vi 110), (vi 103), (vi 108), (vi 101), (vi 116), (vi 111), (vi 110)]) ∈ F) : Con Z EL (⟨"com/example/montaje/montaje/beans/BeanDefinition", "setScope", "(Ljava/lang/String;)V"⟩ : MethodName) prog_4_method_9_code 2 (Option.none : Option Jvm.ClassFile.FieldType) (rmm 2 4 64 28) [(vr p1), (vr p2)] ((p1, true, oBeanDefinition (vr (g1 Z)) (vr p3) (vr p4) (vr p5) u1 (vr p6) (vr p7)) :: F) (fun v D' => (v = none ∧ (p1, true, oBeanDefinition (vr (g1 Z)) (vr p3) (vr p4) (vr p5) u1 (vr p6) (vr p2)) :: F = D')) := by
  refine Con.of (ls := #[rv p1, rv p2]) (by decide +kernel) rfl ?_
  show W Z EL _ "com/example/montaje/montaje/beans/BeanDefinition" "setScope" _ _ _ _ _ _ _ _ _ _
  refine W.aloadN (pc := 0) d19_0 rfl rfl ?_
  refine W.ldcT (pc := 1) 20 (vs := [(vi 115), (vi 99), (vi 111), (vi 112), (vi 101)]) rfl d19_1 (w140 hw) (wS hw) m2 tx_73636f7065 (by decide) (by decide) (by decide) (fun a1 a2 => ?_)
  show W _ _ _ _ _ _ _ _ _ _ _ _ 3 _ [(vr a1), (vr p2)]
  refine W.callS (pc := 3) (as := [(vr p2), (vr a1)]) 0 [] d19_3 (w106 hw) (w107 hw) (w108 hw) (w109 hw) (c37_requireNonNull hw hs (p1 := p2) (p2 := a1) (p3 := p8) (p4 := a2)) (by decide) pd_Ljava_lang_Object_Ljava_lang_String__Ljava_lang_Object_ rfl rfl rfl rfl (by decide) (fun v D' h => ?_)
  obtain ⟨rfl, rfl⟩ := h
  show W _ _ _ _ _ _ _ _ _ _ _ _ 6 _ [(vr p2)]
  refine W.popv (pc := 6) d19_6 rfl ?_
  refine W.aloadN (pc := 7) d19_7 rfl rfl ?_
  refine W.ldcT (pc := 8) 36 (vs := [(vi 115), (vi 105), (vi 110), (vi 103), (vi 108), (vi 101), (vi 116), (vi 111), (vi 110)]) rfl d19_8 (w122 hw) (wS hw) m1 tx_73696e676c65746f6e (by decide) (by decide) (by decide) (fun a3 a4 => ?_)
  show W _ _ _ _ _ _ _ _ _ _ _ _ 10 _ [(vr a3), (vr p2)]
  refine W.callV (pc := 10) (as := [(vr a3)]) 0 [] d19_10 (w134 hw) (w124 hw) (w126 hw) (w126 hw) (w125 hw) (w3 hw) (w127 hw) (Hp.exa (mS (mS (mS (mS (mS mp2)))))) (c22_equals hw hs (p1 := p2) (p2 := a3) (p3 := p8) (p4 := a4) (mp2 := m0) (mp1 := (mS (mS (mS (mS (mS mp2)))))) (mp3 := (mS (mS (mS (mS (mS mp8)))))) (mp4 := m1)) (by decide) pd_Ljava_lang_Object__Z rfl rfl rfl rfl (by decide) (fun v D' h => ?_)
  obtain ⟨rfl, rfl⟩ := h
  show W _ _ _ _ _ _ _ _ _ _ _ _ 13 _ [(vi 1)]
  refine W.ifY (pc := 13) 39 d19_13 (y_ne (by decide)) (by decide) ?_
  refine W.aloadN (pc := 39) d19_39 rfl rfl ?_
  refine W.aloadN (pc := 40) d19_40 rfl rfl ?_
  refine W.putf (pc := 41) (D' := (a3, false, oString (vr a4) (vi 0)) :: (a4, false, ar "" .byte [(vi 115), (vi 105), (vi 110), (vi 103), (vi 108), (vi 101), (vi 116), (vi 111), (vi 110)]) :: (a1, false, oString (vr a2) (vi 0)) :: (a2, false, ar "" .byte [(vi 115), (vi 99), (vi 111), (vi 112), (vi 101)]) :: (p1, true, oBeanDefinition (vr (g1 Z)) (vr p3) (vr p4) (vr p5) u1 (vr p6) (vr p2)) :: F) 4 6 d19_41 (w120 hw) Via.refl rfl rfl (Or.inl (w121 hw)) (w31 hw) pfLjava_lang_String_ rfl rfl rfl ?_
  refine W.dropAt 0 (D' := (a4, false, ar "" .byte [(vi 115), (vi 105), (vi 110), (vi 103), (vi 108), (vi 101), (vi 116), (vi 111), (vi 110)]) :: (a1, false, oString (vr a2) (vi 0)) :: (a2, false, ar "" .byte [(vi 115), (vi 99), (vi 111), (vi 112), (vi 101)]) :: (p1, true, oBeanDefinition (vr (g1 Z)) (vr p3) (vr p4) (vr p5) u1 (vr p6) (vr p2)) :: F) rfl ?_
  refine W.dropAt 0 (D' := (a1, false, oString (vr a2) (vi 0)) :: (a2, false, ar "" .byte [(vi 115), (vi 99), (vi 111), (vi 112), (vi 101)]) :: (p1, true, oBeanDefinition (vr (g1 Z)) (vr p3) (vr p4) (vr p5) u1 (vr p6) (vr p2)) :: F) rfl ?_
  refine W.dropAt 0 (D' := (a2, false, ar "" .byte [(vi 115), (vi 99), (vi 111), (vi 112), (vi 101)]) :: (p1, true, oBeanDefinition (vr (g1 Z)) (vr p3) (vr p4) (vr p5) u1 (vr p6) (vr p2)) :: F) rfl ?_
  refine W.dropAt 0 (D' := (p1, true, oBeanDefinition (vr (g1 Z)) (vr p3) (vr p4) (vr p5) u1 (vr p6) (vr p2)) :: F) rfl ?_
  exact W.return_ (pc := 44) d19_44 rfl (by decide) ⟨rfl, rfl⟩
set_option maxHeartbeats 4000000 in
theorem lawW {Z a0} (hw : HW a0 Z) (hs : SF Z) (z0 : Int32) (z1 : Int32) (z2 : Int32) (z3 : Int32) : Con Z EL x code maxLocals ret room_1 [(vi z0), (vi z1), (vi z2), (vi z3)] ([]) (fun v _ => v = some (.int 1)) := by
  refine Con.of (ls := #[iv z0, iv z1, iv z2, iv z3, uu, uu, uu, uu, uu, uu, uu, uu, uu, uu]) (by decide +kernel) rfl ?_
  show W Z EL _ "com/example/montaje/montaje/beans/BeanDefinitionGetScopePinLaw" "law" _ _ _ _ _ _ _ _ _ _
  refine W.iconst (pc := 0) (2) at_0 (by decide) ?_
  refine W.newarr (pc := 1) 2 (ad := "[C") (ty := .char) at_1 rfl (w0 hw) ix2 rfl (by decide) (by decide) (fun a1 => ?_)
  show W _ _ _ _ _ _ _ _ _ _ _ _ 3 _ [(vr a1)]
  refine W.astore (pc := 3) (ls' := #[iv z0, iv z1, iv z2, iv z3, rv a1, uu, uu, uu, uu, uu, uu, uu, uu, uu]) at_3 rfl rfl ?_
  refine W.aload (pc := 5) 4 at_5 rfl rfl ?_
  refine W.iconst (pc := 7) (0) at_7 (by decide) ?_
  refine W.iloadN (pc := 8) at_8 rfl ?_
  refine W.sipush (pc := 9) (255) at_9 (by decide) ?_
  refine W.iand (pc := 12) at_12 ?_
  refine W.i2cK (pc := 13) (z2 &&& (255 : Int32)) at_13 (z_i2c (by have := rng32 z2; have := q255; have := am_255 z2; omega)) ?_
  refine W.castore (pc := 14) (D' := (a1, true, ar "[C" .char [(vi (z2 &&& (255 : Int32))), (vi 0)]) :: []) 0 0 at_14 rfl ix0 (Nat.le_of_ble_eq_true rfl) (z_narC (by have := rng32 z2; have := q255; have := am_255 z2; omega)) rfl ?_
  refine W.aload (pc := 15) 4 at_15 rfl rfl ?_
  refine W.iconst (pc := 17) (1) at_17 (by decide) ?_
  refine W.iloadN (pc := 18) at_18 rfl ?_
  refine W.bipush (pc := 19) (8) at_19 (by decide) ?_
  refine W.iushr (pc := 21) at_21 ?_
  refine W.sipush (pc := 22) (255) at_22 (by decide) ?_
  refine W.iand (pc := 25) at_25 ?_
  refine W.i2cK (pc := 26) ((XT.ushr z2 (8 : Int32)) &&& (255 : Int32)) at_26 (z_i2c (by have := rng32 z2; have := q8; have := aushr_8 z2; have := q255; have := am_255 (XT.ushr z2 (8 : Int32)); omega)) ?_
  refine W.castore (pc := 27) (D' := (a1, true, ar "[C" .char [(vi (z2 &&& (255 : Int32))), (vi ((XT.ushr z2 (8 : Int32)) &&& (255 : Int32)))]) :: []) 0 1 at_27 rfl ix1 (Nat.le_of_ble_eq_true rfl) (z_narC (by have := rng32 z2; have := q8; have := aushr_8 z2; have := q255; have := am_255 (XT.ushr z2 (8 : Int32)); omega)) rfl ?_
  have K5 : ∀ (a3 : Addr) (a4 : Addr), W Z EL room_1 "com/example/montaje/montaje/beans/BeanDefinitionGetScopePinLaw" "law" code maxLocals ret (fun v _ => v = some (.int 1)) ((a1, true, ar "[C" .char [(vi (z2 &&& (255 : Int32))), (vi ((XT.ushr z2 (8 : Int32)) &&& (255 : Int32)))]) :: (a3, true, oString (vr a4) (vi 0)) :: (a4, true, ar "[B" .byte [(vi (z2 &&& (255 : Int32)).toInt8.toInt32), (vi ((XT.ushr z2 (8 : Int32)) &&& (255 : Int32)).toInt8.toInt32)]) :: []) 3 8 42 #[iv z0, iv z1, iv z2, iv z3, rv a1, rv a3, .val .null, uu, uu, uu, uu, uu, uu, uu] [] := by
   intro a3 a4 
   have K9 : ∀ (u7 : Value) (t8 : Slot), u7.isRef = true → SlOk t8 → W Z EL room_1 "com/example/montaje/montaje/beans/BeanDefinitionGetScopePinLaw" "law" code maxLocals ret (fun v _ => v = some (.int 1)) ((a1, true, ar "[C" .char [(vi (z2 &&& (255 : Int32))), (vi ((XT.ushr z2 (8 : Int32)) &&& (255 : Int32)))]) :: (a3, true, oString (vr a4) (vi 0)) :: (a4, true, ar "[B" .byte [(vi (z2 &&& (255 : Int32)).toInt8.toInt32), (vi ((XT.ushr z2 (8 : Int32)) &&& (255 : Int32)).toInt8.toInt32)]) :: []) 6 14 76 #[iv z0, iv z1, iv z2, iv z3, rv a1, rv a3, .val u7, t8, uu, uu, uu, uu, uu, uu] [] := by
    intro u7 t8 hu7 ht8
    refine W.new (pc := 76) at_76 (w30 hw) (w31 hw) (w32 hw) (laBeanDefinition hw) (by decide) (by decide) (fun a10 => ?_)
    show W _ _ _ _ _ _ _ _ _ _ _ _ 79 _ [(vr a10)]
    refine W.dup (pc := 79) at_79 rfl ?_
    refine W.aload (pc := 80) 6 at_80 rfl hu7 ?_
    refine W.aload (pc := 82) 5 at_82 rfl rfl ?_
    refine W.callI (pc := 84) (as := [u7, (vr a3)]) 1 [(vr a10)] at_84 rfl (w33 hw) (w34 hw) (w32 hw) (w35 hw) (c11_init hw hs (p1 := a10) (p2 := a3) (p3 := a4) (x1 := (z2 &&& (255 : Int32)).toInt8.toInt32) (hx1 := (by have := rng32 z2; have := q255; have := am_255 z2; have := a_i2b (z2 &&& (255 : Int32)); omega)) (x2 := ((XT.ushr z2 (8 : Int32)) &&& (255 : Int32)).toInt8.toInt32) (hx2 := (by have := rng32 z2; have := q8; have := aushr_8 z2; have := q255; have := am_255 (XT.ushr z2 (8 : Int32)); have := a_i2b ((XT.ushr z2 (8 : Int32)) &&& (255 : Int32)); omega)) (u1 := u7) (hu1 := hu7) (mp2 := m1)) (by decide) pd_Ljava_lang_String_Ljava_lang_String__V rfl rfl rfl rfl (by decide) (fun v D' h => ?_)
    obtain ⟨a11, a12, a13, rfl, rfl⟩ := h
    show W _ _ _ _ _ _ _ _ _ _ _ _ 87 _ [(vr a10)]
    refine W.astore (pc := 87) (ls' := #[iv z0, iv z1, iv z2, iv z3, rv a1, rv a3, .val u7, rv a10, uu, uu, uu, uu, uu, uu]) at_87 rfl (store_ok ht8 rfl rfl) ?_
    refine W.iloadN (pc := 89) at_89 rfl ?_
    refine W.ldcI (pc := 90) at_90 (w113 hw) ?_
    refine W.iand (pc := 92) at_92 ?_
    refine W.iconst (pc := 93) (3) at_93 (by decide) ?_
    refine W.irem (pc := 94) at_94 (by decide) ?_
    refine W.istore (pc := 95) (ls' := #[iv z0, iv z1, iv z2, iv z3, rv a1, rv a3, .val u7, rv a10, iv ((z0 &&& (2147483647 : Int32)) % (3 : Int32)), uu, uu, uu, uu, uu]) at_95 rfl ?_
    refine W.iloadN (pc := 97) at_97 rfl ?_
    refine W.ldcI (pc := 98) at_98 (w113 hw) ?_
    refine W.iand (pc := 100) at_100 ?_
    refine W.iconst (pc := 101) (3) at_101 (by decide) ?_
    refine W.irem (pc := 102) at_102 (by decide) ?_
    refine W.istore (pc := 103) (ls' := #[iv z0, iv z1, iv z2, iv z3, rv a1, rv a3, .val u7, rv a10, iv ((z0 &&& (2147483647 : Int32)) % (3 : Int32)), iv ((z1 &&& (2147483647 : Int32)) % (3 : Int32)), uu, uu, uu, uu]) at_103 rfl ?_
    refine W.ldcT (pc := 105) 36 (vs := [(vi 115), (vi 105), (vi 110), (vi 103), (vi 108), (vi 101), (vi 116), (vi 111), (vi 110)]) rfl at_105 (w114 hw) (wS hw) m4 tx_73696e676c65746f6e (by decide) (by decide) (by decide) (fun a14 a15 => ?_)
    show W _ _ _ _ _ _ _ _ _ _ _ _ 107 _ [(vr a14)]
    refine W.astore (pc := 107) (ls' := #[iv z0, iv z1, iv z2, iv z3, rv a1, rv a3, .val u7, rv a10, iv ((z0 &&& (2147483647 : Int32)) % (3 : Int32)), iv ((z1 &&& (2147483647 : Int32)) % (3 : Int32)), rv a14, uu, uu, uu]) at_107 rfl rfl ?_
    refine W.iload (pc := 109) at_109 rfl ?_
    refine W.iconst (pc := 111) (1) at_111 (by decide) ?_
    refine W.icmp (pc := 112) 129 at_112 (by decide) (fun h1 => ?_) (fun h1 => ?_)
    ·
     have ih1 := t_ne h1
     refine W.iload (pc := 129) at_129 rfl ?_
     refine W.iconst (pc := 131) (2) at_131 (by decide) ?_
     refine W.icmp (pc := 132) 146 at_132 (by decide) (fun h2 => ?_) (fun h2 => ?_)
     ·
      have ih2 := t_ne h2
      refine W.iload (pc := 146) at_146 rfl ?_
      refine W.iconst (pc := 148) (1) at_148 (by decide) ?_
      refine W.icmp (pc := 149) 166 at_149 (by decide) (fun h3 => ?_) (fun h3 => ?_)
      ·
       have ih3 := t_ne h3
       refine W.iload (pc := 166) at_166 rfl ?_
       refine W.iconst (pc := 168) (2) at_168 (by decide) ?_
       refine W.icmp (pc := 169) 183 at_169 (by decide) (fun h4 => ?_) (fun h4 => ?_)
       ·
        have ih4 := t_ne h4
        refine W.aload (pc := 183) 7 at_183 rfl rfl ?_
        refine W.callV (pc := 185) (as := []) 0 [] at_185 (w115 hw) (w116 hw) (w118 hw) (w118 hw) (w117 hw) (w32 hw) (w119 hw) (Hp.exa m5) (c21_getScope hw hs (p1 := a10) (p2 := a11) (p3 := a12) (p4 := a13) (p5 := a3) (p6 := a4) (x1 := (z2 &&& (255 : Int32)).toInt8.toInt32) (hx1 := (by have := rng32 z2; have := q255; have := am_255 z2; have := a_i2b (z2 &&& (255 : Int32)); have := rng32 z0; have := q2147483647; have := am_2147483647 z0; have := q3; have := arem_3 (z0 &&& (2147483647 : Int32)); have := q1; have := q2; have := rng32 z1; have := am_2147483647 z1; have := arem_3 (z1 &&& (2147483647 : Int32)); omega)) (x2 := ((XT.ushr z2 (8 : Int32)) &&& (255 : Int32)).toInt8.toInt32) (hx2 := (by have := rng32 z2; have := q8; have := aushr_8 z2; have := q255; have := am_255 (XT.ushr z2 (8 : Int32)); have := a_i2b ((XT.ushr z2 (8 : Int32)) &&& (255 : Int32)); have := rng32 z0; have := q2147483647; have := am_2147483647 z0; have := q3; have := arem_3 (z0 &&& (2147483647 : Int32)); have := q1; have := q2; have := rng32 z1; have := am_2147483647 z1; have := arem_3 (z1 &&& (2147483647 : Int32)); omega)) (u1 := u7) (hu1 := hu7) (mp1 := m5)) (by decide) pd__Ljava_lang_String_ rfl rfl rfl rfl (by decide) (fun v D' h => ?_)
        obtain ⟨a16, a17, rfl, rfl⟩ := h
        show W _ _ _ _ _ _ _ _ _ _ _ _ 188 _ [(vr a16)]
        refine W.astore (pc := 188) (ls' := #[iv z0, iv z1, iv z2, iv z3, rv a1, rv a3, .val u7, rv a10, iv ((z0 &&& (2147483647 : Int32)) % (3 : Int32)), iv ((z1 &&& (2147483647 : Int32)) % (3 : Int32)), rv a14, rv a16, uu, uu]) at_188 rfl rfl ?_
        refine W.aload (pc := 190) 7 at_190 rfl rfl ?_
        refine W.callV (pc := 192) (as := []) 0 [] at_192 (w115 hw) (w116 hw) (w118 hw) (w118 hw) (w117 hw) (w32 hw) (w119 hw) (Hp.exa m7) (c21_getScope hw hs (p1 := a10) (p2 := a11) (p3 := a12) (p4 := a13) (p5 := a3) (p6 := a4) (x1 := (z2 &&& (255 : Int32)).toInt8.toInt32) (hx1 := (by have := rng32 z2; have := q255; have := am_255 z2; have := a_i2b (z2 &&& (255 : Int32)); have := rng32 z0; have := q2147483647; have := am_2147483647 z0; have := q3; have := arem_3 (z0 &&& (2147483647 : Int32)); have := q1; have := q2; have := rng32 z1; have := am_2147483647 z1; have := arem_3 (z1 &&& (2147483647 : Int32)); omega)) (x2 := ((XT.ushr z2 (8 : Int32)) &&& (255 : Int32)).toInt8.toInt32) (hx2 := (by have := rng32 z2; have := q8; have := aushr_8 z2; have := q255; have := am_255 (XT.ushr z2 (8 : Int32)); have := a_i2b ((XT.ushr z2 (8 : Int32)) &&& (255 : Int32)); have := rng32 z0; have := q2147483647; have := am_2147483647 z0; have := q3; have := arem_3 (z0 &&& (2147483647 : Int32)); have := q1; have := q2; have := rng32 z1; have := am_2147483647 z1; have := arem_3 (z1 &&& (2147483647 : Int32)); omega)) (u1 := u7) (hu1 := hu7) (mp1 := m7)) (by decide) pd__Ljava_lang_String_ rfl rfl rfl rfl (by decide) (fun v D' h => ?_)
        obtain ⟨a18, a19, rfl, rfl⟩ := h
        show W _ _ _ _ _ _ _ _ _ _ _ _ 195 _ [(vr a18)]
        refine W.astore (pc := 195) (ls' := #[iv z0, iv z1, iv z2, iv z3, rv a1, rv a3, .val u7, rv a10, iv ((z0 &&& (2147483647 : Int32)) % (3 : Int32)), iv ((z1 &&& (2147483647 : Int32)) % (3 : Int32)), rv a14, rv a16, rv a18, uu]) at_195 rfl rfl ?_
        refine W.aload (pc := 197) 11 at_197 rfl rfl ?_
        refine W.ifnullN (pc := 199) at_199 ?_
        refine W.aload (pc := 202) 12 at_202 rfl rfl ?_
        refine W.ifnonnullY (pc := 204) 209 at_204 (by decide) ?_
        refine W.aload (pc := 209) 10 at_209 rfl rfl ?_
        refine W.ldcT (pc := 211) 36 (vs := [(vi 115), (vi 105), (vi 110), (vi 103), (vi 108), (vi 101), (vi 116), (vi 111), (vi 110)]) rfl at_211 (w114 hw) (wS hw) m4 tx_73696e676c65746f6e (by decide) (by decide) (by decide) (fun a20 a21 => ?_)
        show W _ _ _ _ _ _ _ _ _ _ _ _ 213 _ [(vr a20), (vr a14)]
        refine W.callV (pc := 213) (as := [(vr a20)]) 0 [] at_213 (w123 hw) (w124 hw) (w126 hw) (w126 hw) (w125 hw) (w3 hw) (w127 hw) (Hp.exa m6) (c22_equals hw hs (p1 := a14) (p2 := a20) (p3 := a15) (p4 := a21) (mp2 := m0) (mp1 := m6) (mp3 := m7) (mp4 := m1)) (by decide) pd_Ljava_lang_Object__Z rfl rfl rfl rfl (by decide) (fun v D' h => ?_)
        obtain ⟨rfl, rfl⟩ := h
        show W _ _ _ _ _ _ _ _ _ _ _ _ 216 _ [(vi 1)]
        refine W.istore (pc := 216) (ls' := #[iv z0, iv z1, iv z2, iv z3, rv a1, rv a3, .val u7, rv a10, iv ((z0 &&& (2147483647 : Int32)) % (3 : Int32)), iv ((z1 &&& (2147483647 : Int32)) % (3 : Int32)), rv a14, rv a16, rv a18, iv 1]) at_216 rfl ?_
        refine W.aload (pc := 218) 11 at_218 rfl rfl ?_
        refine W.aload (pc := 220) 10 at_220 rfl rfl ?_
        refine W.callV (pc := 222) (as := [(vr a14)]) 0 [] at_222 (w123 hw) (w124 hw) (w126 hw) (w126 hw) (w125 hw) (w3 hw) (w127 hw) (Hp.exa m4) (c22_equals hw hs (p1 := a16) (p2 := a14) (p3 := a17) (p4 := a15) (mp2 := m6) (mp1 := m4) (mp3 := m5) (mp4 := m7)) (by decide) pd_Ljava_lang_Object__Z rfl rfl rfl rfl (by decide) (fun v D' h => ?_)
        obtain ⟨rfl, rfl⟩ := h
        show W _ _ _ _ _ _ _ _ _ _ _ _ 225 _ [(vi 1)]
        refine W.ifN (pc := 225) at_225 (n_eq (by decide)) ?_
        refine W.aload (pc := 228) 12 at_228 rfl rfl ?_
        refine W.aload (pc := 230) 11 at_230 rfl rfl ?_
        refine W.callV (pc := 232) (as := [(vr a16)]) 0 [] at_232 (w123 hw) (w124 hw) (w126 hw) (w126 hw) (w125 hw) (w3 hw) (w127 hw) (Hp.exa m2) (c22_equals hw hs (p1 := a18) (p2 := a16) (p3 := a19) (p4 := a17) (mp2 := m4) (mp1 := m2) (mp3 := m3) (mp4 := m5)) (by decide) pd_Ljava_lang_Object__Z rfl rfl rfl rfl (by decide) (fun v D' h => ?_)
        obtain ⟨rfl, rfl⟩ := h
        show W _ _ _ _ _ _ _ _ _ _ _ _ 235 _ [(vi 1)]
        refine W.ifN (pc := 235) at_235 (n_eq (by decide)) ?_
        refine W.aload (pc := 238) 7 at_238 rfl rfl ?_
        refine W.callV (pc := 240) (as := []) 0 [] at_240 (w128 hw) (w129 hw) (w131 hw) (w131 hw) (w130 hw) (w32 hw) (w132 hw) (Hp.exa m11) (c24_isSingleton hw hs (p1 := a10) (p2 := a11) (p3 := a12) (p4 := a13) (p5 := a3) (p6 := a4) (x1 := (z2 &&& (255 : Int32)).toInt8.toInt32) (hx1 := (by have := rng32 z2; have := q255; have := am_255 z2; have := a_i2b (z2 &&& (255 : Int32)); have := rng32 z0; have := q2147483647; have := am_2147483647 z0; have := q3; have := arem_3 (z0 &&& (2147483647 : Int32)); have := q1; have := q2; have := rng32 z1; have := am_2147483647 z1; have := arem_3 (z1 &&& (2147483647 : Int32)); omega)) (x2 := ((XT.ushr z2 (8 : Int32)) &&& (255 : Int32)).toInt8.toInt32) (hx2 := (by have := rng32 z2; have := q8; have := aushr_8 z2; have := q255; have := am_255 (XT.ushr z2 (8 : Int32)); have := a_i2b ((XT.ushr z2 (8 : Int32)) &&& (255 : Int32)); have := rng32 z0; have := q2147483647; have := am_2147483647 z0; have := q3; have := arem_3 (z0 &&& (2147483647 : Int32)); have := q1; have := q2; have := rng32 z1; have := am_2147483647 z1; have := arem_3 (z1 &&& (2147483647 : Int32)); omega)) (u1 := u7) (hu1 := hu7) (mp1 := m11)) (by decide) pd__Z rfl rfl rfl rfl (by decide) (fun v D' h => ?_)
        obtain ⟨rfl, rfl⟩ := h
        show W _ _ _ _ _ _ _ _ _ _ _ _ 243 _ [(vi 1)]
        refine W.iload (pc := 243) at_243 rfl ?_
        refine W.icmpN (pc := 245) at_245 (n_ne (by decide)) ?_
        refine W.iconst (pc := 248) (1) at_248 (by decide) ?_
        refine W.goto (pc := 249) 253 at_249 (by decide) ?_
        exact W.ireturn (pc := 253) at_253 rfl (Or.inr (Or.inl rfl)) (nw_bool (by decide)) (by decide) rfl
       ·
        have ih4 := f_ne h4
        refine W.aload (pc := 172) 7 at_172 rfl rfl ?_
        refine W.ldcT (pc := 174) 36 (vs := [(vi 112), (vi 114), (vi 111), (vi 116), (vi 111), (vi 116), (vi 121), (vi 112), (vi 101)]) rfl at_174 (w141 hw) (wS hw) m5 tx_70726f746f74797065 (by decide) (by decide) (by decide) (fun a22 a23 => ?_)
        show W _ _ _ _ _ _ _ _ _ _ _ _ 176 _ [(vr a22), (vr a10)]
        refine W.front 7 (D' := (a10, true, oBeanDefinition (vr (g1 Z)) (vr a11) (vr a12) (vr a13) u7 (vr a3) .null) :: (a22, false, oString (vr a23) (vi 0)) :: (a23, false, ar "" .byte [(vi 112), (vi 114), (vi 111), (vi 116), (vi 111), (vi 116), (vi 121), (vi 112), (vi 101)]) :: (a14, false, oString (vr a15) (vi 0)) :: (a15, false, ar "" .byte [(vi 115), (vi 105), (vi 110), (vi 103), (vi 108), (vi 101), (vi 116), (vi 111), (vi 110)]) :: (a13, true, oLinkedHashMap (.float 1061158912) (vi 0) (vi 0)) :: (a12, true, oLinkedHashMap (.float 1061158912) (vi 0) (vi 0)) :: (a11, true, oArrayList (vi 0) (vr (g2 Z))) :: (a1, true, ar "[C" .char [(vi (z2 &&& (255 : Int32))), (vi ((XT.ushr z2 (8 : Int32)) &&& (255 : Int32)))]) :: (a3, true, oString (vr a4) (vi 0)) :: (a4, true, ar "[B" .byte [(vi (z2 &&& (255 : Int32)).toInt8.toInt32), (vi ((XT.ushr z2 (8 : Int32)) &&& (255 : Int32)).toInt8.toInt32)]) :: []) rfl rfl ?_
        refine W.callV (pc := 176) (as := [(vr a22)]) 0 [] at_176 (w135 hw) (w136 hw) (w138 hw) (w138 hw) (w137 hw) (w32 hw) (w139 hw) (Hp.exa m0) (c26_setScope hw hs (p1 := a10) (p2 := a22) (p3 := a11) (p4 := a12) (p5 := a13) (p6 := a3) (p7 := a23) (p8 := a4) (x1 := (z2 &&& (255 : Int32)).toInt8.toInt32) (hx1 := (by have := rng32 z2; have := q255; have := am_255 z2; have := a_i2b (z2 &&& (255 : Int32)); have := rng32 z0; have := q2147483647; have := am_2147483647 z0; have := q3; have := arem_3 (z0 &&& (2147483647 : Int32)); have := q1; have := q2; have := rng32 z1; have := am_2147483647 z1; have := arem_3 (z1 &&& (2147483647 : Int32)); omega)) (x2 := ((XT.ushr z2 (8 : Int32)) &&& (255 : Int32)).toInt8.toInt32) (hx2 := (by have := rng32 z2; have := q8; have := aushr_8 z2; have := q255; have := am_255 (XT.ushr z2 (8 : Int32)); have := a_i2b ((XT.ushr z2 (8 : Int32)) &&& (255 : Int32)); have := rng32 z0; have := q2147483647; have := am_2147483647 z0; have := q3; have := arem_3 (z0 &&& (2147483647 : Int32)); have := q1; have := q2; have := rng32 z1; have := am_2147483647 z1; have := arem_3 (z1 &&& (2147483647 : Int32)); omega)) (u1 := u7) (hu1 := hu7) (mp2 := m0) (mp7 := m1)) (by decide) pd_Ljava_lang_String__V rfl rfl rfl rfl (by decide) (fun v D' h => ?_)
        obtain ⟨rfl, rfl⟩ := h
        show W _ _ _ _ _ _ _ _ _ _ _ _ 179 _ []
        refine W.ldcT (pc := 179) 36 (vs := [(vi 112), (vi 114), (vi 111), (vi 116), (vi 111), (vi 116), (vi 121), (vi 112), (vi 101)]) rfl at_179 (w141 hw) (wS hw) m5 tx_70726f746f74797065 (by decide) (by decide) (by decide) (fun a24 a25 => ?_)
        show W _ _ _ _ _ _ _ _ _ _ _ _ 181 _ [(vr a24)]
        refine W.astore (pc := 181) (ls' := #[iv z0, iv z1, iv z2, iv z3, rv a1, rv a3, .val u7, rv a10, iv ((z0 &&& (2147483647 : Int32)) % (3 : Int32)), iv ((z1 &&& (2147483647 : Int32)) % (3 : Int32)), rv a24, uu, uu, uu]) at_181 rfl rfl ?_
        refine W.aload (pc := 183) 7 at_183 rfl rfl ?_
        refine W.callV (pc := 185) (as := []) 0 [] at_185 (w115 hw) (w116 hw) (w118 hw) (w118 hw) (w117 hw) (w32 hw) (w119 hw) (Hp.exa m2) (c32_getScope hw hs (p1 := a10) (p2 := a11) (p3 := a12) (p4 := a13) (p5 := a3) (p6 := a22) (p7 := a4) (p8 := a23) (x1 := (z2 &&& (255 : Int32)).toInt8.toInt32) (hx1 := (by have := rng32 z2; have := q255; have := am_255 z2; have := a_i2b (z2 &&& (255 : Int32)); have := rng32 z0; have := q2147483647; have := am_2147483647 z0; have := q3; have := arem_3 (z0 &&& (2147483647 : Int32)); have := q1; have := q2; have := rng32 z1; have := am_2147483647 z1; have := arem_3 (z1 &&& (2147483647 : Int32)); omega)) (x2 := ((XT.ushr z2 (8 : Int32)) &&& (255 : Int32)).toInt8.toInt32) (hx2 := (by have := rng32 z2; have := q8; have := aushr_8 z2; have := q255; have := am_255 (XT.ushr z2 (8 : Int32)); have := a_i2b ((XT.ushr z2 (8 : Int32)) &&& (255 : Int32)); have := rng32 z0; have := q2147483647; have := am_2147483647 z0; have := q3; have := arem_3 (z0 &&& (2147483647 : Int32)); have := q1; have := q2; have := rng32 z1; have := am_2147483647 z1; have := arem_3 (z1 &&& (2147483647 : Int32)); omega)) (u1 := u7) (hu1 := hu7) (mp1 := m2)) (by decide) pd__Ljava_lang_String_ rfl rfl rfl rfl (by decide) (fun v D' h => ?_)
        obtain ⟨rfl, rfl⟩ := h
        show W _ _ _ _ _ _ _ _ _ _ _ _ 188 _ [(vr a22)]
        refine W.astore (pc := 188) (ls' := #[iv z0, iv z1, iv z2, iv z3, rv a1, rv a3, .val u7, rv a10, iv ((z0 &&& (2147483647 : Int32)) % (3 : Int32)), iv ((z1 &&& (2147483647 : Int32)) % (3 : Int32)), rv a24, rv a22, uu, uu]) at_188 rfl rfl ?_
        refine W.aload (pc := 190) 7 at_190 rfl rfl ?_
        refine W.callV (pc := 192) (as := []) 0 [] at_192 (w115 hw) (w116 hw) (w118 hw) (w118 hw) (w117 hw) (w32 hw) (w119 hw) (Hp.exa m2) (c32_getScope hw hs (p1 := a10) (p2 := a11) (p3 := a12) (p4 := a13) (p5 := a3) (p6 := a22) (p7 := a4) (p8 := a23) (x1 := (z2 &&& (255 : Int32)).toInt8.toInt32) (hx1 := (by have := rng32 z2; have := q255; have := am_255 z2; have := a_i2b (z2 &&& (255 : Int32)); have := rng32 z0; have := q2147483647; have := am_2147483647 z0; have := q3; have := arem_3 (z0 &&& (2147483647 : Int32)); have := q1; have := q2; have := rng32 z1; have := am_2147483647 z1; have := arem_3 (z1 &&& (2147483647 : Int32)); omega)) (x2 := ((XT.ushr z2 (8 : Int32)) &&& (255 : Int32)).toInt8.toInt32) (hx2 := (by have := rng32 z2; have := q8; have := aushr_8 z2; have := q255; have := am_255 (XT.ushr z2 (8 : Int32)); have := a_i2b ((XT.ushr z2 (8 : Int32)) &&& (255 : Int32)); have := rng32 z0; have := q2147483647; have := am_2147483647 z0; have := q3; have := arem_3 (z0 &&& (2147483647 : Int32)); have := q1; have := q2; have := rng32 z1; have := am_2147483647 z1; have := arem_3 (z1 &&& (2147483647 : Int32)); omega)) (u1 := u7) (hu1 := hu7) (mp1 := m2)) (by decide) pd__Ljava_lang_String_ rfl rfl rfl rfl (by decide) (fun v D' h => ?_)
        obtain ⟨rfl, rfl⟩ := h
        show W _ _ _ _ _ _ _ _ _ _ _ _ 195 _ [(vr a22)]
        refine W.astore (pc := 195) (ls' := #[iv z0, iv z1, iv z2, iv z3, rv a1, rv a3, .val u7, rv a10, iv ((z0 &&& (2147483647 : Int32)) % (3 : Int32)), iv ((z1 &&& (2147483647 : Int32)) % (3 : Int32)), rv a24, rv a22, rv a22, uu]) at_195 rfl rfl ?_
        refine W.aload (pc := 197) 11 at_197 rfl rfl ?_
        refine W.ifnullN (pc := 199) at_199 ?_
        refine W.aload (pc := 202) 12 at_202 rfl rfl ?_
        refine W.ifnonnullY (pc := 204) 209 at_204 (by decide) ?_
        refine W.aload (pc := 209) 10 at_209 rfl rfl ?_
        refine W.ldcT (pc := 211) 36 (vs := [(vi 115), (vi 105), (vi 110), (vi 103), (vi 108), (vi 101), (vi 116), (vi 111), (vi 110)]) rfl at_211 (w114 hw) (wS hw) m4 tx_73696e676c65746f6e (by decide) (by decide) (by decide) (fun a26 a27 => ?_)
        show W _ _ _ _ _ _ _ _ _ _ _ _ 213 _ [(vr a26), (vr a24)]
        refine W.callV (pc := 213) (as := [(vr a26)]) 0 [] at_213 (w123 hw) (w124 hw) (w126 hw) (w126 hw) (w125 hw) (w3 hw) (w127 hw) (Hp.exa m2) (c28_equals hw hs (p1 := a24) (p2 := a26) (p3 := a25) (p4 := a27) (mp1 := m2) (mp2 := m0) (mp3 := m3) (mp4 := m1)) (by decide) pd_Ljava_lang_Object__Z rfl rfl rfl rfl (by decide) (fun v D' h => ?_)
        obtain ⟨rfl, rfl⟩ := h
        show W _ _ _ _ _ _ _ _ _ _ _ _ 216 _ [(vi 0)]
        refine W.istore (pc := 216) (ls' := #[iv z0, iv z1, iv z2, iv z3, rv a1, rv a3, .val u7, rv a10, iv ((z0 &&& (2147483647 : Int32)) % (3 : Int32)), iv ((z1 &&& (2147483647 : Int32)) % (3 : Int32)), rv a24, rv a22, rv a22, iv 0]) at_216 rfl ?_
        refine W.aload (pc := 218) 11 at_218 rfl rfl ?_
        refine W.aload (pc := 220) 10 at_220 rfl rfl ?_
        refine W.callV (pc := 222) (as := [(vr a24)]) 0 [] at_222 (w123 hw) (w124 hw) (w126 hw) (w126 hw) (w125 hw) (w3 hw) (w127 hw) (Hp.exa m5) (c30_equals hw hs (p1 := a22) (p2 := a24) (p3 := a23) (p4 := a25) (mp2 := m2) (mp1 := m5) (mp3 := m6) (mp4 := m3)) (by decide) pd_Ljava_lang_Object__Z rfl rfl rfl rfl (by decide) (fun v D' h => ?_)
        obtain ⟨rfl, rfl⟩ := h
        show W _ _ _ _ _ _ _ _ _ _ _ _ 225 _ [(vi 1)]
        refine W.ifN (pc := 225) at_225 (n_eq (by decide)) ?_
        refine W.aload (pc := 228) 12 at_228 rfl rfl ?_
        refine W.aload (pc := 230) 11 at_230 rfl rfl ?_
        refine W.callV (pc := 232) (as := [(vr a22)]) 0 [] at_232 (w123 hw) (w124 hw) (w126 hw) (w126 hw) (w125 hw) (w3 hw) (w127 hw) (Hp.exa m5) (c33_equals hw hs (p1 := a22) (p2 := a23)) (by decide) pd_Ljava_lang_Object__Z rfl rfl rfl rfl (by decide) (fun v D' h => ?_)
        obtain ⟨rfl, rfl⟩ := h
        show W _ _ _ _ _ _ _ _ _ _ _ _ 235 _ [(vi 1)]
        refine W.ifN (pc := 235) at_235 (n_eq (by decide)) ?_
        refine W.aload (pc := 238) 7 at_238 rfl rfl ?_
        refine W.callV (pc := 240) (as := []) 0 [] at_240 (w128 hw) (w129 hw) (w131 hw) (w131 hw) (w130 hw) (w32 hw) (w132 hw) (Hp.exa m4) (c34_isSingleton hw hs (p1 := a10) (p2 := a11) (p3 := a12) (p4 := a13) (p5 := a3) (p6 := a22) (p7 := a4) (p8 := a23) (x1 := (z2 &&& (255 : Int32)).toInt8.toInt32) (hx1 := (by have := rng32 z2; have := q255; have := am_255 z2; have := a_i2b (z2 &&& (255 : Int32)); have := rng32 z0; have := q2147483647; have := am_2147483647 z0; have := q3; have := arem_3 (z0 &&& (2147483647 : Int32)); have := q1; have := q2; have := rng32 z1; have := am_2147483647 z1; have := arem_3 (z1 &&& (2147483647 : Int32)); omega)) (x2 := ((XT.ushr z2 (8 : Int32)) &&& (255 : Int32)).toInt8.toInt32) (hx2 := (by have := rng32 z2; have := q8; have := aushr_8 z2; have := q255; have := am_255 (XT.ushr z2 (8 : Int32)); have := a_i2b ((XT.ushr z2 (8 : Int32)) &&& (255 : Int32)); have := rng32 z0; have := q2147483647; have := am_2147483647 z0; have := q3; have := arem_3 (z0 &&& (2147483647 : Int32)); have := q1; have := q2; have := rng32 z1; have := am_2147483647 z1; have := arem_3 (z1 &&& (2147483647 : Int32)); omega)) (u1 := u7) (hu1 := hu7) (mp1 := m4) (mp6 := m5) (mp8 := m6)) (by decide) pd__Z rfl rfl rfl rfl (by decide) (fun v D' h => ?_)
        obtain ⟨rfl, rfl⟩ := h
        show W _ _ _ _ _ _ _ _ _ _ _ _ 243 _ [(vi 0)]
        refine W.iload (pc := 243) at_243 rfl ?_
        refine W.icmpN (pc := 245) at_245 (n_ne (by decide)) ?_
        refine W.iconst (pc := 248) (1) at_248 (by decide) ?_
        refine W.goto (pc := 249) 253 at_249 (by decide) ?_
        exact W.ireturn (pc := 253) at_253 rfl (Or.inr (Or.inl rfl)) (nw_bool (by decide)) (by decide) rfl
      ·
       have ih3 := f_ne h3
       refine W.aload (pc := 152) 7 at_152 rfl rfl ?_
       refine W.ldcT (pc := 154) 36 (vs := [(vi 115), (vi 105), (vi 110), (vi 103), (vi 108), (vi 101), (vi 116), (vi 111), (vi 110)]) rfl at_154 (w114 hw) (wS hw) m4 tx_73696e676c65746f6e (by decide) (by decide) (by decide) (fun a28 a29 => ?_)
       show W _ _ _ _ _ _ _ _ _ _ _ _ 156 _ [(vr a28), (vr a10)]
       refine W.front 7 (D' := (a10, true, oBeanDefinition (vr (g1 Z)) (vr a11) (vr a12) (vr a13) u7 (vr a3) .null) :: (a28, false, oString (vr a29) (vi 0)) :: (a29, false, ar "" .byte [(vi 115), (vi 105), (vi 110), (vi 103), (vi 108), (vi 101), (vi 116), (vi 111), (vi 110)]) :: (a14, false, oString (vr a15) (vi 0)) :: (a15, false, ar "" .byte [(vi 115), (vi 105), (vi 110), (vi 103), (vi 108), (vi 101), (vi 116), (vi 111), (vi 110)]) :: (a13, true, oLinkedHashMap (.float 1061158912) (vi 0) (vi 0)) :: (a12, true, oLinkedHashMap (.float 1061158912) (vi 0) (vi 0)) :: (a11, true, oArrayList (vi 0) (vr (g2 Z))) :: (a1, true, ar "[C" .char [(vi (z2 &&& (255 : Int32))), (vi ((XT.ushr z2 (8 : Int32)) &&& (255 : Int32)))]) :: (a3, true, oString (vr a4) (vi 0)) :: (a4, true, ar "[B" .byte [(vi (z2 &&& (255 : Int32)).toInt8.toInt32), (vi ((XT.ushr z2 (8 : Int32)) &&& (255 : Int32)).toInt8.toInt32)]) :: []) rfl rfl ?_
       refine W.callV (pc := 156) (as := [(vr a28)]) 0 [] at_156 (w135 hw) (w136 hw) (w138 hw) (w138 hw) (w137 hw) (w32 hw) (w139 hw) (Hp.exa m0) (c36_setScope hw hs (p1 := a10) (p2 := a28) (p3 := a11) (p4 := a12) (p5 := a13) (p6 := a3) (p7 := a29) (p8 := a4) (x1 := (z2 &&& (255 : Int32)).toInt8.toInt32) (hx1 := (by have := rng32 z2; have := q255; have := am_255 z2; have := a_i2b (z2 &&& (255 : Int32)); have := rng32 z0; have := q2147483647; have := am_2147483647 z0; have := q3; have := arem_3 (z0 &&& (2147483647 : Int32)); have := q1; have := q2; have := rng32 z1; have := am_2147483647 z1; have := arem_3 (z1 &&& (2147483647 : Int32)); omega)) (x2 := ((XT.ushr z2 (8 : Int32)) &&& (255 : Int32)).toInt8.toInt32) (hx2 := (by have := rng32 z2; have := q8; have := aushr_8 z2; have := q255; have := am_255 (XT.ushr z2 (8 : Int32)); have := a_i2b ((XT.ushr z2 (8 : Int32)) &&& (255 : Int32)); have := rng32 z0; have := q2147483647; have := am_2147483647 z0; have := q3; have := arem_3 (z0 &&& (2147483647 : Int32)); have := q1; have := q2; have := rng32 z1; have := am_2147483647 z1; have := arem_3 (z1 &&& (2147483647 : Int32)); omega)) (u1 := u7) (hu1 := hu7) (mp2 := m0) (mp7 := m1)) (by decide) pd_Ljava_lang_String__V rfl rfl rfl rfl (by decide) (fun v D' h => ?_)
       obtain ⟨rfl, rfl⟩ := h
       show W _ _ _ _ _ _ _ _ _ _ _ _ 159 _ []
       refine W.ldcT (pc := 159) 36 (vs := [(vi 115), (vi 105), (vi 110), (vi 103), (vi 108), (vi 101), (vi 116), (vi 111), (vi 110)]) rfl at_159 (w114 hw) (wS hw) m4 tx_73696e676c65746f6e (by decide) (by decide) (by decide) (fun a30 a31 => ?_)
       show W _ _ _ _ _ _ _ _ _ _ _ _ 161 _ [(vr a30)]
       refine W.astore (pc := 161) (ls' := #[iv z0, iv z1, iv z2, iv z3, rv a1, rv a3, .val u7, rv a10, iv ((z0 &&& (2147483647 : Int32)) % (3 : Int32)), iv ((z1 &&& (2147483647 : Int32)) % (3 : Int32)), rv a30, uu, uu, uu]) at_161 rfl rfl ?_
       refine W.goto (pc := 163) 183 at_163 (by decide) ?_
       refine W.aload (pc := 183) 7 at_183 rfl rfl ?_
       refine W.callV (pc := 185) (as := []) 0 [] at_185 (w115 hw) (w116 hw) (w118 hw) (w118 hw) (w117 hw) (w32 hw) (w119 hw) (Hp.exa m2) (c38_getScope hw hs (p1 := a10) (p2 := a11) (p3 := a12) (p4 := a13) (p5 := a3) (p6 := a28) (p7 := a4) (p8 := a29) (x1 := (z2 &&& (255 : Int32)).toInt8.toInt32) (hx1 := (by have := rng32 z2; have := q255; have := am_255 z2; have := a_i2b (z2 &&& (255 : Int32)); have := rng32 z0; have := q2147483647; have := am_2147483647 z0; have := q3; have := arem_3 (z0 &&& (2147483647 : Int32)); have := q1; have := q2; have := rng32 z1; have := am_2147483647 z1; have := arem_3 (z1 &&& (2147483647 : Int32)); omega)) (x2 := ((XT.ushr z2 (8 : Int32)) &&& (255 : Int32)).toInt8.toInt32) (hx2 := (by have := rng32 z2; have := q8; have := aushr_8 z2; have := q255; have := am_255 (XT.ushr z2 (8 : Int32)); have := a_i2b ((XT.ushr z2 (8 : Int32)) &&& (255 : Int32)); have := rng32 z0; have := q2147483647; have := am_2147483647 z0; have := q3; have := arem_3 (z0 &&& (2147483647 : Int32)); have := q1; have := q2; have := rng32 z1; have := am_2147483647 z1; have := arem_3 (z1 &&& (2147483647 : Int32)); omega)) (u1 := u7) (hu1 := hu7) (mp1 := m2)) (by decide) pd__Ljava_lang_String_ rfl rfl rfl rfl (by decide) (fun v D' h => ?_)
       obtain ⟨rfl, rfl⟩ := h
       show W _ _ _ _ _ _ _ _ _ _ _ _ 188 _ [(vr a28)]
       refine W.astore (pc := 188) (ls' := #[iv z0, iv z1, iv z2, iv z3, rv a1, rv a3, .val u7, rv a10, iv ((z0 &&& (2147483647 : Int32)) % (3 : Int32)), iv ((z1 &&& (2147483647 : Int32)) % (3 : Int32)), rv a30, rv a28, uu, uu]) at_188 rfl rfl ?_
       refine W.aload (pc := 190) 7 at_190 rfl rfl ?_
       refine W.callV (pc := 192) (as := []) 0 [] at_192 (w115 hw) (w116 hw) (w118 hw) (w118 hw) (w117 hw) (w32 hw) (w119 hw) (Hp.exa m2) (c38_getScope hw hs (p1 := a10) (p2 := a11) (p3 := a12) (p4 := a13) (p5 := a3) (p6 := a28) (p7 := a4) (p8 := a29) (x1 := (z2 &&& (255 : Int32)).toInt8.toInt32) (hx1 := (by have := rng32 z2; have := q255; have := am_255 z2; have := a_i2b (z2 &&& (255 : Int32)); have := rng32 z0; have := q2147483647; have := am_2147483647 z0; have := q3; have := arem_3 (z0 &&& (2147483647 : Int32)); have := q1; have := q2; have := rng32 z1; have := am_2147483647 z1; have := arem_3 (z1 &&& (2147483647 : Int32)); omega)) (x2 := ((XT.ushr z2 (8 : Int32)) &&& (255 : Int32)).toInt8.toInt32) (hx2 := (by have := rng32 z2; have := q8; have := aushr_8 z2; have := q255; have := am_255 (XT.ushr z2 (8 : Int32)); have := a_i2b ((XT.ushr z2 (8 : Int32)) &&& (255 : Int32)); have := rng32 z0; have := q2147483647; have := am_2147483647 z0; have := q3; have := arem_3 (z0 &&& (2147483647 : Int32)); have := q1; have := q2; have := rng32 z1; have := am_2147483647 z1; have := arem_3 (z1 &&& (2147483647 : Int32)); omega)) (u1 := u7) (hu1 := hu7) (mp1 := m2)) (by decide) pd__Ljava_lang_String_ rfl rfl rfl rfl (by decide) (fun v D' h => ?_)
       obtain ⟨rfl, rfl⟩ := h
       show W _ _ _ _ _ _ _ _ _ _ _ _ 195 _ [(vr a28)]
       refine W.astore (pc := 195) (ls' := #[iv z0, iv z1, iv z2, iv z3, rv a1, rv a3, .val u7, rv a10, iv ((z0 &&& (2147483647 : Int32)) % (3 : Int32)), iv ((z1 &&& (2147483647 : Int32)) % (3 : Int32)), rv a30, rv a28, rv a28, uu]) at_195 rfl rfl ?_
       refine W.aload (pc := 197) 11 at_197 rfl rfl ?_
       refine W.ifnullN (pc := 199) at_199 ?_
       refine W.aload (pc := 202) 12 at_202 rfl rfl ?_
       refine W.ifnonnullY (pc := 204) 209 at_204 (by decide) ?_
       refine W.aload (pc := 209) 10 at_209 rfl rfl ?_
       refine W.ldcT (pc := 211) 36 (vs := [(vi 115), (vi 105), (vi 110), (vi 103), (vi 108), (vi 101), (vi 116), (vi 111), (vi 110)]) rfl at_211 (w114 hw) (wS hw) m4 tx_73696e676c65746f6e (by decide) (by decide) (by decide) (fun a32 a33 => ?_)
       show W _ _ _ _ _ _ _ _ _ _ _ _ 213 _ [(vr a32), (vr a30)]
       refine W.callV (pc := 213) (as := [(vr a32)]) 0 [] at_213 (w123 hw) (w124 hw) (w126 hw) (w126 hw) (w125 hw) (w3 hw) (w127 hw) (Hp.exa m2) (c22_equals hw hs (p1 := a30) (p2 := a32) (p3 := a31) (p4 := a33) (mp2 := m0) (mp1 := m2) (mp3 := m3) (mp4 := m1)) (by decide) pd_Ljava_lang_Object__Z rfl rfl rfl rfl (by decide) (fun v D' h => ?_)
       obtain ⟨rfl, rfl⟩ := h
       show W _ _ _ _ _ _ _ _ _ _ _ _ 216 _ [(vi 1)]
       refine W.istore (pc := 216) (ls' := #[iv z0, iv z1, iv z2, iv z3, rv a1, rv a3, .val u7, rv a10, iv ((z0 &&& (2147483647 : Int32)) % (3 : Int32)), iv ((z1 &&& (2147483647 : Int32)) % (3 : Int32)), rv a30, rv a28, rv a28, iv 1]) at_216 rfl ?_
       refine W.aload (pc := 218) 11 at_218 rfl rfl ?_
       refine W.aload (pc := 220) 10 at_220 rfl rfl ?_
       refine W.callV (pc := 222) (as := [(vr a30)]) 0 [] at_222 (w123 hw) (w124 hw) (w126 hw) (w126 hw) (w125 hw) (w3 hw) (w127 hw) (Hp.exa m5) (c22_equals hw hs (p1 := a28) (p2 := a30) (p3 := a29) (p4 := a31) (mp2 := m2) (mp1 := m5) (mp3 := m6) (mp4 := m3)) (by decide) pd_Ljava_lang_Object__Z rfl rfl rfl rfl (by decide) (fun v D' h => ?_)
       obtain ⟨rfl, rfl⟩ := h
       show W _ _ _ _ _ _ _ _ _ _ _ _ 225 _ [(vi 1)]
       refine W.ifN (pc := 225) at_225 (n_eq (by decide)) ?_
       refine W.aload (pc := 228) 12 at_228 rfl rfl ?_
       refine W.aload (pc := 230) 11 at_230 rfl rfl ?_
       refine W.callV (pc := 232) (as := [(vr a28)]) 0 [] at_232 (w123 hw) (w124 hw) (w126 hw) (w126 hw) (w125 hw) (w3 hw) (w127 hw) (Hp.exa m5) (c39_equals hw hs (p1 := a28) (p2 := a29)) (by decide) pd_Ljava_lang_Object__Z rfl rfl rfl rfl (by decide) (fun v D' h => ?_)
       obtain ⟨rfl, rfl⟩ := h
       show W _ _ _ _ _ _ _ _ _ _ _ _ 235 _ [(vi 1)]
       refine W.ifN (pc := 235) at_235 (n_eq (by decide)) ?_
       refine W.aload (pc := 238) 7 at_238 rfl rfl ?_
       refine W.callV (pc := 240) (as := []) 0 [] at_240 (w128 hw) (w129 hw) (w131 hw) (w131 hw) (w130 hw) (w32 hw) (w132 hw) (Hp.exa m4) (c40_isSingleton hw hs (p1 := a10) (p2 := a11) (p3 := a12) (p4 := a13) (p5 := a3) (p6 := a28) (p7 := a4) (p8 := a29) (x1 := (z2 &&& (255 : Int32)).toInt8.toInt32) (hx1 := (by have := rng32 z2; have := q255; have := am_255 z2; have := a_i2b (z2 &&& (255 : Int32)); have := rng32 z0; have := q2147483647; have := am_2147483647 z0; have := q3; have := arem_3 (z0 &&& (2147483647 : Int32)); have := q1; have := q2; have := rng32 z1; have := am_2147483647 z1; have := arem_3 (z1 &&& (2147483647 : Int32)); omega)) (x2 := ((XT.ushr z2 (8 : Int32)) &&& (255 : Int32)).toInt8.toInt32) (hx2 := (by have := rng32 z2; have := q8; have := aushr_8 z2; have := q255; have := am_255 (XT.ushr z2 (8 : Int32)); have := a_i2b ((XT.ushr z2 (8 : Int32)) &&& (255 : Int32)); have := rng32 z0; have := q2147483647; have := am_2147483647 z0; have := q3; have := arem_3 (z0 &&& (2147483647 : Int32)); have := q1; have := q2; have := rng32 z1; have := am_2147483647 z1; have := arem_3 (z1 &&& (2147483647 : Int32)); omega)) (u1 := u7) (hu1 := hu7) (mp1 := m4) (mp6 := m5) (mp8 := m6)) (by decide) pd__Z rfl rfl rfl rfl (by decide) (fun v D' h => ?_)
       obtain ⟨rfl, rfl⟩ := h
       show W _ _ _ _ _ _ _ _ _ _ _ _ 243 _ [(vi 1)]
       refine W.iload (pc := 243) at_243 rfl ?_
       refine W.icmpN (pc := 245) at_245 (n_ne (by decide)) ?_
       refine W.iconst (pc := 248) (1) at_248 (by decide) ?_
       refine W.goto (pc := 249) 253 at_249 (by decide) ?_
       exact W.ireturn (pc := 253) at_253 rfl (Or.inr (Or.inl rfl)) (nw_bool (by decide)) (by decide) rfl
     ·
      have ih2 := f_ne h2
      refine W.aload (pc := 135) 7 at_135 rfl rfl ?_
      refine W.ldcT (pc := 137) 36 (vs := [(vi 112), (vi 114), (vi 111), (vi 116), (vi 111), (vi 116), (vi 121), (vi 112), (vi 101)]) rfl at_137 (w141 hw) (wS hw) m5 tx_70726f746f74797065 (by decide) (by decide) (by decide) (fun a34 a35 => ?_)
      show W _ _ _ _ _ _ _ _ _ _ _ _ 139 _ [(vr a34), (vr a10)]
      refine W.front 7 (D' := (a10, true, oBeanDefinition (vr (g1 Z)) (vr a11) (vr a12) (vr a13) u7 (vr a3) .null) :: (a34, false, oString (vr a35) (vi 0)) :: (a35, false, ar "" .byte [(vi 112), (vi 114), (vi 111), (vi 116), (vi 111), (vi 116), (vi 121), (vi 112), (vi 101)]) :: (a14, false, oString (vr a15) (vi 0)) :: (a15, false, ar "" .byte [(vi 115), (vi 105), (vi 110), (vi 103), (vi 108), (vi 101), (vi 116), (vi 111), (vi 110)]) :: (a13, true, oLinkedHashMap (.float 1061158912) (vi 0) (vi 0)) :: (a12, true, oLinkedHashMap (.float 1061158912) (vi 0) (vi 0)) :: (a11, true, oArrayList (vi 0) (vr (g2 Z))) :: (a1, true, ar "[C" .char [(vi (z2 &&& (255 : Int32))), (vi ((XT.ushr z2 (8 : Int32)) &&& (255 : Int32)))]) :: (a3, true, oString (vr a4) (vi 0)) :: (a4, true, ar "[B" .byte [(vi (z2 &&& (255 : Int32)).toInt8.toInt32), (vi ((XT.ushr z2 (8 : Int32)) &&& (255 : Int32)).toInt8.toInt32)]) :: []) rfl rfl ?_
      refine W.callV (pc := 139) (as := [(vr a34)]) 0 [] at_139 (w135 hw) (w136 hw) (w138 hw) (w138 hw) (w137 hw) (w32 hw) (w139 hw) (Hp.exa m0) (c26_setScope hw hs (p1 := a10) (p2 := a34) (p3 := a11) (p4 := a12) (p5 := a13) (p6 := a3) (p7 := a35) (p8 := a4) (x1 := (z2 &&& (255 : Int32)).toInt8.toInt32) (hx1 := (by have := rng32 z2; have := q255; have := am_255 z2; have := a_i2b (z2 &&& (255 : Int32)); have := rng32 z0; have := q2147483647; have := am_2147483647 z0; have := q3; have := arem_3 (z0 &&& (2147483647 : Int32)); have := q1; have := q2; omega)) (x2 := ((XT.ushr z2 (8 : Int32)) &&& (255 : Int32)).toInt8.toInt32) (hx2 := (by have := rng32 z2; have := q8; have := aushr_8 z2; have := q255; have := am_255 (XT.ushr z2 (8 : Int32)); have := a_i2b ((XT.ushr z2 (8 : Int32)) &&& (255 : Int32)); have := rng32 z0; have := q2147483647; have := am_2147483647 z0; have := q3; have := arem_3 (z0 &&& (2147483647 : Int32)); have := q1; have := q2; omega)) (u1 := u7) (hu1 := hu7) (mp2 := m0) (mp7 := m1)) (by decide) pd_Ljava_lang_String__V rfl rfl rfl rfl (by decide) (fun v D' h => ?_)
      obtain ⟨rfl, rfl⟩ := h
      show W _ _ _ _ _ _ _ _ _ _ _ _ 142 _ []
      refine W.ldcT (pc := 142) 36 (vs := [(vi 112), (vi 114), (vi 111), (vi 116), (vi 111), (vi 116), (vi 121), (vi 112), (vi 101)]) rfl at_142 (w141 hw) (wS hw) m5 tx_70726f746f74797065 (by decide) (by decide) (by decide) (fun a36 a37 => ?_)
      show W _ _ _ _ _ _ _ _ _ _ _ _ 144 _ [(vr a36)]
      refine W.astore (pc := 144) (ls' := #[iv z0, iv z1, iv z2, iv z3, rv a1, rv a3, .val u7, rv a10, iv ((z0 &&& (2147483647 : Int32)) % (3 : Int32)), iv ((z1 &&& (2147483647 : Int32)) % (3 : Int32)), rv a36, uu, uu, uu]) at_144 rfl rfl ?_
      refine W.iload (pc := 146) at_146 rfl ?_
      refine W.iconst (pc := 148) (1) at_148 (by decide) ?_
      refine W.icmp (pc := 149) 166 at_149 (by decide) (fun h5 => ?_) (fun h5 => ?_)
      ·
       have ih5 := t_ne h5
       refine W.iload (pc := 166) at_166 rfl ?_
       refine W.iconst (pc := 168) (2) at_168 (by decide) ?_
       refine W.icmp (pc := 169) 183 at_169 (by decide) (fun h6 => ?_) (fun h6 => ?_)
       ·
        have ih6 := t_ne h6
        refine W.aload (pc := 183) 7 at_183 rfl rfl ?_
        refine W.callV (pc := 185) (as := []) 0 [] at_185 (w115 hw) (w116 hw) (w118 hw) (w118 hw) (w117 hw) (w32 hw) (w119 hw) (Hp.exa m2) (c32_getScope hw hs (p1 := a10) (p2 := a11) (p3 := a12) (p4 := a13) (p5 := a3) (p6 := a34) (p7 := a4) (p8 := a35) (x1 := (z2 &&& (255 : Int32)).toInt8.toInt32) (hx1 := (by have := rng32 z2; have := q255; have := am_255 z2; have := a_i2b (z2 &&& (255 : Int32)); have := rng32 z0; have := q2147483647; have := am_2147483647 z0; have := q3; have := arem_3 (z0 &&& (2147483647 : Int32)); have := q1; have := q2; have := rng32 z1; have := am_2147483647 z1; have := arem_3 (z1 &&& (2147483647 : Int32)); omega)) (x2 := ((XT.ushr z2 (8 : Int32)) &&& (255 : Int32)).toInt8.toInt32) (hx2 := (by have := rng32 z2; have := q8; have := aushr_8 z2; have := q255; have := am_255 (XT.ushr z2 (8 : Int32)); have := a_i2b ((XT.ushr z2 (8 : Int32)) &&& (255 : Int32)); have := rng32 z0; have := q2147483647; have := am_2147483647 z0; have := q3; have := arem_3 (z0 &&& (2147483647 : Int32)); have := q1; have := q2; have := rng32 z1; have := am_2147483647 z1; have := arem_3 (z1 &&& (2147483647 : Int32)); omega)) (u1 := u7) (hu1 := hu7) (mp1 := m2)) (by decide) pd__Ljava_lang_String_ rfl rfl rfl rfl (by decide) (fun v D' h => ?_)
        obtain ⟨rfl, rfl⟩ := h
        show W _ _ _ _ _ _ _ _ _ _ _ _ 188 _ [(vr a34)]
        refine W.astore (pc := 188) (ls' := #[iv z0, iv z1, iv z2, iv z3, rv a1, rv a3, .val u7, rv a10, iv ((z0 &&& (2147483647 : Int32)) % (3 : Int32)), iv ((z1 &&& (2147483647 : Int32)) % (3 : Int32)), rv a36, rv a34, uu, uu]) at_188 rfl rfl ?_
        refine W.aload (pc := 190) 7 at_190 rfl rfl ?_
        refine W.callV (pc := 192) (as := []) 0 [] at_192 (w115 hw) (w116 hw) (w118 hw) (w118 hw) (w117 hw) (w32 hw) (w119 hw) (Hp.exa m2) (c32_getScope hw hs (p1 := a10) (p2 := a11) (p3 := a12) (p4 := a13) (p5 := a3) (p6 := a34) (p7 := a4) (p8 := a35) (x1 := (z2 &&& (255 : Int32)).toInt8.toInt32) (hx1 := (by have := rng32 z2; have := q255; have := am_255 z2; have := a_i2b (z2 &&& (255 : Int32)); have := rng32 z0; have := q2147483647; have := am_2147483647 z0; have := q3; have := arem_3 (z0 &&& (2147483647 : Int32)); have := q1; have := q2; have := rng32 z1; have := am_2147483647 z1; have := arem_3 (z1 &&& (2147483647 : Int32)); omega)) (x2 := ((XT.ushr z2 (8 : Int32)) &&& (255 : Int32)).toInt8.toInt32) (hx2 := (by have := rng32 z2; have := q8; have := aushr_8 z2; have := q255; have := am_255 (XT.ushr z2 (8 : Int32)); have := a_i2b ((XT.ushr z2 (8 : Int32)) &&& (255 : Int32)); have := rng32 z0; have := q2147483647; have := am_2147483647 z0; have := q3; have := arem_3 (z0 &&& (2147483647 : Int32)); have := q1; have := q2; have := rng32 z1; have := am_2147483647 z1; have := arem_3 (z1 &&& (2147483647 : Int32)); omega)) (u1 := u7) (hu1 := hu7) (mp1 := m2)) (by decide) pd__Ljava_lang_String_ rfl rfl rfl rfl (by decide) (fun v D' h => ?_)
        obtain ⟨rfl, rfl⟩ := h
        show W _ _ _ _ _ _ _ _ _ _ _ _ 195 _ [(vr a34)]
        refine W.astore (pc := 195) (ls' := #[iv z0, iv z1, iv z2, iv z3, rv a1, rv a3, .val u7, rv a10, iv ((z0 &&& (2147483647 : Int32)) % (3 : Int32)), iv ((z1 &&& (2147483647 : Int32)) % (3 : Int32)), rv a36, rv a34, rv a34, uu]) at_195 rfl rfl ?_
        refine W.aload (pc := 197) 11 at_197 rfl rfl ?_
        refine W.ifnullN (pc := 199) at_199 ?_
        refine W.aload (pc := 202) 12 at_202 rfl rfl ?_
        refine W.ifnonnullY (pc := 204) 209 at_204 (by decide) ?_
        refine W.aload (pc := 209) 10 at_209 rfl rfl ?_
        refine W.ldcT (pc := 211) 36 (vs := [(vi 115), (vi 105), (vi 110), (vi 103), (vi 108), (vi 101), (vi 116), (vi 111), (vi 110)]) rfl at_211 (w114 hw) (wS hw) m4 tx_73696e676c65746f6e (by decide) (by decide) (by decide) (fun a38 a39 => ?_)
        show W _ _ _ _ _ _ _ _ _ _ _ _ 213 _ [(vr a38), (vr a36)]
        refine W.callV (pc := 213) (as := [(vr a38)]) 0 [] at_213 (w123 hw) (w124 hw) (w126 hw) (w126 hw) (w125 hw) (w3 hw) (w127 hw) (Hp.exa m2) (c28_equals hw hs (p1 := a36) (p2 := a38) (p3 := a37) (p4 := a39) (mp1 := m2) (mp2 := m0) (mp3 := m3) (mp4 := m1)) (by decide) pd_Ljava_lang_Object__Z rfl rfl rfl rfl (by decide) (fun v D' h => ?_)
        obtain ⟨rfl, rfl⟩ := h
        show W _ _ _ _ _ _ _ _ _ _ _ _ 216 _ [(vi 0)]
        refine W.istore (pc := 216) (ls' := #[iv z0, iv z1, iv z2, iv z3, rv a1, rv a3, .val u7, rv a10, iv ((z0 &&& (2147483647 : Int32)) % (3 : Int32)), iv ((z1 &&& (2147483647 : Int32)) % (3 : Int32)), rv a36, rv a34, rv a34, iv 0]) at_216 rfl ?_
        refine W.aload (pc := 218) 11 at_218 rfl rfl ?_
        refine W.aload (pc := 220) 10 at_220 rfl rfl ?_
        refine W.callV (pc := 222) (as := [(vr a36)]) 0 [] at_222 (w123 hw) (w124 hw) (w126 hw) (w126 hw) (w125 hw) (w3 hw) (w127 hw) (Hp.exa m5) (c30_equals hw hs (p1 := a34) (p2 := a36) (p3 := a35) (p4 := a37) (mp2 := m2) (mp1 := m5) (mp3 := m6) (mp4 := m3)) (by decide) pd_Ljava_lang_Object__Z rfl rfl rfl rfl (by decide) (fun v D' h => ?_)
        obtain ⟨rfl, rfl⟩ := h
        show W _ _ _ _ _ _ _ _ _ _ _ _ 225 _ [(vi 1)]
        refine W.ifN (pc := 225) at_225 (n_eq (by decide)) ?_
        refine W.aload (pc := 228) 12 at_228 rfl rfl ?_
        refine W.aload (pc := 230) 11 at_230 rfl rfl ?_
        refine W.callV (pc := 232) (as := [(vr a34)]) 0 [] at_232 (w123 hw) (w124 hw) (w126 hw) (w126 hw) (w125 hw) (w3 hw) (w127 hw) (Hp.exa m5) (c33_equals hw hs (p1 := a34) (p2 := a35)) (by decide) pd_Ljava_lang_Object__Z rfl rfl rfl rfl (by decide) (fun v D' h => ?_)
        obtain ⟨rfl, rfl⟩ := h
        show W _ _ _ _ _ _ _ _ _ _ _ _ 235 _ [(vi 1)]
        refine W.ifN (pc := 235) at_235 (n_eq (by decide)) ?_
        refine W.aload (pc := 238) 7 at_238 rfl rfl ?_
        refine W.callV (pc := 240) (as := []) 0 [] at_240 (w128 hw) (w129 hw) (w131 hw) (w131 hw) (w130 hw) (w32 hw) (w132 hw) (Hp.exa m4) (c34_isSingleton hw hs (p1 := a10) (p2 := a11) (p3 := a12) (p4 := a13) (p5 := a3) (p6 := a34) (p7 := a4) (p8 := a35) (x1 := (z2 &&& (255 : Int32)).toInt8.toInt32) (hx1 := (by have := rng32 z2; have := q255; have := am_255 z2; have := a_i2b (z2 &&& (255 : Int32)); have := rng32 z0; have := q2147483647; have := am_2147483647 z0; have := q3; have := arem_3 (z0 &&& (2147483647 : Int32)); have := q1; have := q2; have := rng32 z1; have := am_2147483647 z1; have := arem_3 (z1 &&& (2147483647 : Int32)); omega)) (x2 := ((XT.ushr z2 (8 : Int32)) &&& (255 : Int32)).toInt8.toInt32) (hx2 := (by have := rng32 z2; have := q8; have := aushr_8 z2; have := q255; have := am_255 (XT.ushr z2 (8 : Int32)); have := a_i2b ((XT.ushr z2 (8 : Int32)) &&& (255 : Int32)); have := rng32 z0; have := q2147483647; have := am_2147483647 z0; have := q3; have := arem_3 (z0 &&& (2147483647 : Int32)); have := q1; have := q2; have := rng32 z1; have := am_2147483647 z1; have := arem_3 (z1 &&& (2147483647 : Int32)); omega)) (u1 := u7) (hu1 := hu7) (mp1 := m4) (mp6 := m5) (mp8 := m6)) (by decide) pd__Z rfl rfl rfl rfl (by decide) (fun v D' h => ?_)
        obtain ⟨rfl, rfl⟩ := h
        show W _ _ _ _ _ _ _ _ _ _ _ _ 243 _ [(vi 0)]
        refine W.iload (pc := 243) at_243 rfl ?_
        refine W.icmpN (pc := 245) at_245 (n_ne (by decide)) ?_
        refine W.iconst (pc := 248) (1) at_248 (by decide) ?_
        refine W.goto (pc := 249) 253 at_249 (by decide) ?_
        exact W.ireturn (pc := 253) at_253 rfl (Or.inr (Or.inl rfl)) (nw_bool (by decide)) (by decide) rfl
       ·
        have ih6 := f_ne h6
        refine W.aload (pc := 172) 7 at_172 rfl rfl ?_
        refine W.ldcT (pc := 174) 36 (vs := [(vi 112), (vi 114), (vi 111), (vi 116), (vi 111), (vi 116), (vi 121), (vi 112), (vi 101)]) rfl at_174 (w141 hw) (wS hw) m5 tx_70726f746f74797065 (by decide) (by decide) (by decide) (fun a40 a41 => ?_)
        show W _ _ _ _ _ _ _ _ _ _ _ _ 176 _ [(vr a40), (vr a10)]
        refine W.front 4 (D' := (a10, true, oBeanDefinition (vr (g1 Z)) (vr a11) (vr a12) (vr a13) u7 (vr a3) (vr a34)) :: (a40, false, oString (vr a41) (vi 0)) :: (a41, false, ar "" .byte [(vi 112), (vi 114), (vi 111), (vi 116), (vi 111), (vi 116), (vi 121), (vi 112), (vi 101)]) :: (a36, false, oString (vr a37) (vi 0)) :: (a37, false, ar "" .byte [(vi 112), (vi 114), (vi 111), (vi 116), (vi 111), (vi 116), (vi 121), (vi 112), (vi 101)]) :: (a34, false, oString (vr a35) (vi 0)) :: (a35, false, ar "" .byte [(vi 112), (vi 114), (vi 111), (vi 116), (vi 111), (vi 116), (vi 121), (vi 112), (vi 101)]) :: (a14, false, oString (vr a15) (vi 0)) :: (a15, false, ar "" .byte [(vi 115), (vi 105), (vi 110), (vi 103), (vi 108), (vi 101), (vi 116), (vi 111), (vi 110)]) :: (a13, true, oLinkedHashMap (.float 1061158912) (vi 0) (vi 0)) :: (a12, true, oLinkedHashMap (.float 1061158912) (vi 0) (vi 0)) :: (a11, true, oArrayList (vi 0) (vr (g2 Z))) :: (a1, true, ar "[C" .char [(vi (z2 &&& (255 : Int32))), (vi ((XT.ushr z2 (8 : Int32)) &&& (255 : Int32)))]) :: (a3, true, oString (vr a4) (vi 0)) :: (a4, true, ar "[B" .byte [(vi (z2 &&& (255 : Int32)).toInt8.toInt32), (vi ((XT.ushr z2 (8 : Int32)) &&& (255 : Int32)).toInt8.toInt32)]) :: []) rfl rfl ?_
        refine W.callV (pc := 176) (as := [(vr a40)]) 0 [] at_176 (w135 hw) (w136 hw) (w138 hw) (w138 hw) (w137 hw) (w32 hw) (w139 hw) (Hp.exa m0) (c42_setScope hw hs (p1 := a10) (p2 := a40) (p3 := a11) (p4 := a12) (p5 := a13) (p6 := a3) (p7 := a34) (p8 := a41) (p9 := a4) (p10 := a35) (x1 := (z2 &&& (255 : Int32)).toInt8.toInt32) (hx1 := (by have := rng32 z2; have := q255; have := am_255 z2; have := a_i2b (z2 &&& (255 : Int32)); have := rng32 z0; have := q2147483647; have := am_2147483647 z0; have := q3; have := arem_3 (z0 &&& (2147483647 : Int32)); have := q1; have := q2; have := rng32 z1; have := am_2147483647 z1; have := arem_3 (z1 &&& (2147483647 : Int32)); omega)) (x2 := ((XT.ushr z2 (8 : Int32)) &&& (255 : Int32)).toInt8.toInt32) (hx2 := (by have := rng32 z2; have := q8; have := aushr_8 z2; have := q255; have := am_255 (XT.ushr z2 (8 : Int32)); have := a_i2b ((XT.ushr z2 (8 : Int32)) &&& (255 : Int32)); have := rng32 z0; have := q2147483647; have := am_2147483647 z0; have := q3; have := arem_3 (z0 &&& (2147483647 : Int32)); have := q1; have := q2; have := rng32 z1; have := am_2147483647 z1; have := arem_3 (z1 &&& (2147483647 : Int32)); omega)) (u1 := u7) (hu1 := hu7) (mp2 := m0) (mp8 := m1)) (by decide) pd_Ljava_lang_String__V rfl rfl rfl rfl (by decide) (fun v D' h => ?_)
        obtain ⟨rfl, rfl⟩ := h
        show W _ _ _ _ _ _ _ _ _ _ _ _ 179 _ []
        refine W.ldcT (pc := 179) 36 (vs := [(vi 112), (vi 114), (vi 111), (vi 116), (vi 111), (vi 116), (vi 121), (vi 112), (vi 101)]) rfl at_179 (w141 hw) (wS hw) m5 tx_70726f746f74797065 (by decide) (by decide) (by decide) (fun a42 a43 => ?_)
        show W _ _ _ _ _ _ _ _ _ _ _ _ 181 _ [(vr a42)]
        refine W.astore (pc := 181) (ls' := #[iv z0, iv z1, iv z2, iv z3, rv a1, rv a3, .val u7, rv a10, iv ((z0 &&& (2147483647 : Int32)) % (3 : Int32)), iv ((z1 &&& (2147483647 : Int32)) % (3 : Int32)), rv a42, uu, uu, uu]) at_181 rfl rfl ?_
        refine W.aload (pc := 183) 7 at_183 rfl rfl ?_
        refine W.callV (pc := 185) (as := []) 0 [] at_185 (w115 hw) (w116 hw) (w118 hw) (w118 hw) (w117 hw) (w32 hw) (w119 hw) (Hp.exa m2) (c32_getScope hw hs (p1 := a10) (p2 := a11) (p3 := a12) (p4 := a13) (p5 := a3) (p6 := a40) (p7 := a4) (p8 := a41) (x1 := (z2 &&& (255 : Int32)).toInt8.toInt32) (hx1 := (by have := rng32 z2; have := q255; have := am_255 z2; have := a_i2b (z2 &&& (255 : Int32)); have := rng32 z0; have := q2147483647; have := am_2147483647 z0; have := q3; have := arem_3 (z0 &&& (2147483647 : Int32)); have := q1; have := q2; have := rng32 z1; have := am_2147483647 z1; have := arem_3 (z1 &&& (2147483647 : Int32)); omega)) (x2 := ((XT.ushr z2 (8 : Int32)) &&& (255 : Int32)).toInt8.toInt32) (hx2 := (by have := rng32 z2; have := q8; have := aushr_8 z2; have := q255; have := am_255 (XT.ushr z2 (8 : Int32)); have := a_i2b ((XT.ushr z2 (8 : Int32)) &&& (255 : Int32)); have := rng32 z0; have := q2147483647; have := am_2147483647 z0; have := q3; have := arem_3 (z0 &&& (2147483647 : Int32)); have := q1; have := q2; have := rng32 z1; have := am_2147483647 z1; have := arem_3 (z1 &&& (2147483647 : Int32)); omega)) (u1 := u7) (hu1 := hu7) (mp1 := m2)) (by decide) pd__Ljava_lang_String_ rfl rfl rfl rfl (by decide) (fun v D' h => ?_)
        obtain ⟨rfl, rfl⟩ := h
        show W _ _ _ _ _ _ _ _ _ _ _ _ 188 _ [(vr a40)]
        refine W.astore (pc := 188) (ls' := #[iv z0, iv z1, iv z2, iv z3, rv a1, rv a3, .val u7, rv a10, iv ((z0 &&& (2147483647 : Int32)) % (3 : Int32)), iv ((z1 &&& (2147483647 : Int32)) % (3 : Int32)), rv a42, rv a40, uu, uu]) at_188 rfl rfl ?_
        refine W.aload (pc := 190) 7 at_190 rfl rfl ?_
        refine W.callV (pc := 192) (as := []) 0 [] at_192 (w115 hw) (w116 hw) (w118 hw) (w118 hw) (w117 hw) (w32 hw) (w119 hw) (Hp.exa m2) (c32_getScope hw hs (p1 := a10) (p2 := a11) (p3 := a12) (p4 := a13) (p5 := a3) (p6 := a40) (p7 := a4) (p8 := a41) (x1 := (z2 &&& (255 : Int32)).toInt8.toInt32) (hx1 := (by have := rng32 z2; have := q255; have := am_255 z2; have := a_i2b (z2 &&& (255 : Int32)); have := rng32 z0; have := q2147483647; have := am_2147483647 z0; have := q3; have := arem_3 (z0 &&& (2147483647 : Int32)); have := q1; have := q2; have := rng32 z1; have := am_2147483647 z1; have := arem_3 (z1 &&& (2147483647 : Int32)); omega)) (x2 := ((XT.ushr z2 (8 : Int32)) &&& (255 : Int32)).toInt8.toInt32) (hx2 := (by have := rng32 z2; have := q8; have := aushr_8 z2; have := q255; have := am_255 (XT.ushr z2 (8 : Int32)); have := a_i2b ((XT.ushr z2 (8 : Int32)) &&& (255 : Int32)); have := rng32 z0; have := q2147483647; have := am_2147483647 z0; have := q3; have := arem_3 (z0 &&& (2147483647 : Int32)); have := q1; have := q2; have := rng32 z1; have := am_2147483647 z1; have := arem_3 (z1 &&& (2147483647 : Int32)); omega)) (u1 := u7) (hu1 := hu7) (mp1 := m2)) (by decide) pd__Ljava_lang_String_ rfl rfl rfl rfl (by decide) (fun v D' h => ?_)
        obtain ⟨rfl, rfl⟩ := h
        show W _ _ _ _ _ _ _ _ _ _ _ _ 195 _ [(vr a40)]
        refine W.astore (pc := 195) (ls' := #[iv z0, iv z1, iv z2, iv z3, rv a1, rv a3, .val u7, rv a10, iv ((z0 &&& (2147483647 : Int32)) % (3 : Int32)), iv ((z1 &&& (2147483647 : Int32)) % (3 : Int32)), rv a42, rv a40, rv a40, uu]) at_195 rfl rfl ?_
        refine W.aload (pc := 197) 11 at_197 rfl rfl ?_
        refine W.ifnullN (pc := 199) at_199 ?_
        refine W.aload (pc := 202) 12 at_202 rfl rfl ?_
        refine W.ifnonnullY (pc := 204) 209 at_204 (by decide) ?_
        refine W.aload (pc := 209) 10 at_209 rfl rfl ?_
        refine W.ldcT (pc := 211) 36 (vs := [(vi 115), (vi 105), (vi 110), (vi 103), (vi 108), (vi 101), (vi 116), (vi 111), (vi 110)]) rfl at_211 (w114 hw) (wS hw) m4 tx_73696e676c65746f6e (by decide) (by decide) (by decide) (fun a44 a45 => ?_)
        show W _ _ _ _ _ _ _ _ _ _ _ _ 213 _ [(vr a44), (vr a42)]
        refine W.callV (pc := 213) (as := [(vr a44)]) 0 [] at_213 (w123 hw) (w124 hw) (w126 hw) (w126 hw) (w125 hw) (w3 hw) (w127 hw) (Hp.exa m2) (c28_equals hw hs (p1 := a42) (p2 := a44) (p3 := a43) (p4 := a45) (mp1 := m2) (mp2 := m0) (mp3 := m3) (mp4 := m1)) (by decide) pd_Ljava_lang_Object__Z rfl rfl rfl rfl (by decide) (fun v D' h => ?_)
        obtain ⟨rfl, rfl⟩ := h
        show W _ _ _ _ _ _ _ _ _ _ _ _ 216 _ [(vi 0)]
        refine W.istore (pc := 216) (ls' := #[iv z0, iv z1, iv z2, iv z3, rv a1, rv a3, .val u7, rv a10, iv ((z0 &&& (2147483647 : Int32)) % (3 : Int32)), iv ((z1 &&& (2147483647 : Int32)) % (3 : Int32)), rv a42, rv a40, rv a40, iv 0]) at_216 rfl ?_
        refine W.aload (pc := 218) 11 at_218 rfl rfl ?_
        refine W.aload (pc := 220) 10 at_220 rfl rfl ?_
        refine W.callV (pc := 222) (as := [(vr a42)]) 0 [] at_222 (w123 hw) (w124 hw) (w126 hw) (w126 hw) (w125 hw) (w3 hw) (w127 hw) (Hp.exa m5) (c30_equals hw hs (p1 := a40) (p2 := a42) (p3 := a41) (p4 := a43) (mp2 := m2) (mp1 := m5) (mp3 := m6) (mp4 := m3)) (by decide) pd_Ljava_lang_Object__Z rfl rfl rfl rfl (by decide) (fun v D' h => ?_)
        obtain ⟨rfl, rfl⟩ := h
        show W _ _ _ _ _ _ _ _ _ _ _ _ 225 _ [(vi 1)]
        refine W.ifN (pc := 225) at_225 (n_eq (by decide)) ?_
        refine W.aload (pc := 228) 12 at_228 rfl rfl ?_
        refine W.aload (pc := 230) 11 at_230 rfl rfl ?_
        refine W.callV (pc := 232) (as := [(vr a40)]) 0 [] at_232 (w123 hw) (w124 hw) (w126 hw) (w126 hw) (w125 hw) (w3 hw) (w127 hw) (Hp.exa m5) (c33_equals hw hs (p1 := a40) (p2 := a41)) (by decide) pd_Ljava_lang_Object__Z rfl rfl rfl rfl (by decide) (fun v D' h => ?_)
        obtain ⟨rfl, rfl⟩ := h
        show W _ _ _ _ _ _ _ _ _ _ _ _ 235 _ [(vi 1)]
        refine W.ifN (pc := 235) at_235 (n_eq (by decide)) ?_
        refine W.aload (pc := 238) 7 at_238 rfl rfl ?_
        refine W.callV (pc := 240) (as := []) 0 [] at_240 (w128 hw) (w129 hw) (w131 hw) (w131 hw) (w130 hw) (w32 hw) (w132 hw) (Hp.exa m4) (c34_isSingleton hw hs (p1 := a10) (p2 := a11) (p3 := a12) (p4 := a13) (p5 := a3) (p6 := a40) (p7 := a4) (p8 := a41) (x1 := (z2 &&& (255 : Int32)).toInt8.toInt32) (hx1 := (by have := rng32 z2; have := q255; have := am_255 z2; have := a_i2b (z2 &&& (255 : Int32)); have := rng32 z0; have := q2147483647; have := am_2147483647 z0; have := q3; have := arem_3 (z0 &&& (2147483647 : Int32)); have := q1; have := q2; have := rng32 z1; have := am_2147483647 z1; have := arem_3 (z1 &&& (2147483647 : Int32)); omega)) (x2 := ((XT.ushr z2 (8 : Int32)) &&& (255 : Int32)).toInt8.toInt32) (hx2 := (by have := rng32 z2; have := q8; have := aushr_8 z2; have := q255; have := am_255 (XT.ushr z2 (8 : Int32)); have := a_i2b ((XT.ushr z2 (8 : Int32)) &&& (255 : Int32)); have := rng32 z0; have := q2147483647; have := am_2147483647 z0; have := q3; have := arem_3 (z0 &&& (2147483647 : Int32)); have := q1; have := q2; have := rng32 z1; have := am_2147483647 z1; have := arem_3 (z1 &&& (2147483647 : Int32)); omega)) (u1 := u7) (hu1 := hu7) (mp1 := m4) (mp6 := m5) (mp8 := m6)) (by decide) pd__Z rfl rfl rfl rfl (by decide) (fun v D' h => ?_)
        obtain ⟨rfl, rfl⟩ := h
        show W _ _ _ _ _ _ _ _ _ _ _ _ 243 _ [(vi 0)]
        refine W.iload (pc := 243) at_243 rfl ?_
        refine W.icmpN (pc := 245) at_245 (n_ne (by decide)) ?_
        refine W.iconst (pc := 248) (1) at_248 (by decide) ?_
        refine W.goto (pc := 249) 253 at_249 (by decide) ?_
        exact W.ireturn (pc := 253) at_253 rfl (Or.inr (Or.inl rfl)) (nw_bool (by decide)) (by decide) rfl
      ·
       have ih5 := f_ne h5
       refine W.aload (pc := 152) 7 at_152 rfl rfl ?_
       refine W.ldcT (pc := 154) 36 (vs := [(vi 115), (vi 105), (vi 110), (vi 103), (vi 108), (vi 101), (vi 116), (vi 111), (vi 110)]) rfl at_154 (w114 hw) (wS hw) m4 tx_73696e676c65746f6e (by decide) (by decide) (by decide) (fun a46 a47 => ?_)
       show W _ _ _ _ _ _ _ _ _ _ _ _ 156 _ [(vr a46), (vr a10)]
       refine W.front 4 (D' := (a10, true, oBeanDefinition (vr (g1 Z)) (vr a11) (vr a12) (vr a13) u7 (vr a3) (vr a34)) :: (a46, false, oString (vr a47) (vi 0)) :: (a47, false, ar "" .byte [(vi 115), (vi 105), (vi 110), (vi 103), (vi 108), (vi 101), (vi 116), (vi 111), (vi 110)]) :: (a36, false, oString (vr a37) (vi 0)) :: (a37, false, ar "" .byte [(vi 112), (vi 114), (vi 111), (vi 116), (vi 111), (vi 116), (vi 121), (vi 112), (vi 101)]) :: (a34, false, oString (vr a35) (vi 0)) :: (a35, false, ar "" .byte [(vi 112), (vi 114), (vi 111), (vi 116), (vi 111), (vi 116), (vi 121), (vi 112), (vi 101)]) :: (a14, false, oString (vr a15) (vi 0)) :: (a15, false, ar "" .byte [(vi 115), (vi 105), (vi 110), (vi 103), (vi 108), (vi 101), (vi 116), (vi 111), (vi 110)]) :: (a13, true, oLinkedHashMap (.float 1061158912) (vi 0) (vi 0)) :: (a12, true, oLinkedHashMap (.float 1061158912) (vi 0) (vi 0)) :: (a11, true, oArrayList (vi 0) (vr (g2 Z))) :: (a1, true, ar "[C" .char [(vi (z2 &&& (255 : Int32))), (vi ((XT.ushr z2 (8 : Int32)) &&& (255 : Int32)))]) :: (a3, true, oString (vr a4) (vi 0)) :: (a4, true, ar "[B" .byte [(vi (z2 &&& (255 : Int32)).toInt8.toInt32), (vi ((XT.ushr z2 (8 : Int32)) &&& (255 : Int32)).toInt8.toInt32)]) :: []) rfl rfl ?_
       refine W.callV (pc := 156) (as := [(vr a46)]) 0 [] at_156 (w135 hw) (w136 hw) (w138 hw) (w138 hw) (w137 hw) (w32 hw) (w139 hw) (Hp.exa m0) (c43_setScope hw hs (p1 := a10) (p2 := a46) (p3 := a11) (p4 := a12) (p5 := a13) (p6 := a3) (p7 := a34) (p8 := a47) (p9 := a4) (p10 := a35) (x1 := (z2 &&& (255 : Int32)).toInt8.toInt32) (hx1 := (by have := rng32 z2; have := q255; have := am_255 z2; have := a_i2b (z2 &&& (255 : Int32)); have := rng32 z0; have := q2147483647; have := am_2147483647 z0; have := q3; have := arem_3 (z0 &&& (2147483647 : Int32)); have := q1; have := q2; have := rng32 z1; have := am_2147483647 z1; have := arem_3 (z1 &&& (2147483647 : Int32)); omega)) (x2 := ((XT.ushr z2 (8 : Int32)) &&& (255 : Int32)).toInt8.toInt32) (hx2 := (by have := rng32 z2; have := q8; have := aushr_8 z2; have := q255; have := am_255 (XT.ushr z2 (8 : Int32)); have := a_i2b ((XT.ushr z2 (8 : Int32)) &&& (255 : Int32)); have := rng32 z0; have := q2147483647; have := am_2147483647 z0; have := q3; have := arem_3 (z0 &&& (2147483647 : Int32)); have := q1; have := q2; have := rng32 z1; have := am_2147483647 z1; have := arem_3 (z1 &&& (2147483647 : Int32)); omega)) (u1 := u7) (hu1 := hu7) (mp2 := m0) (mp8 := m1)) (by decide) pd_Ljava_lang_String__V rfl rfl rfl rfl (by decide) (fun v D' h => ?_)
       obtain ⟨rfl, rfl⟩ := h
       show W _ _ _ _ _ _ _ _ _ _ _ _ 159 _ []
       refine W.ldcT (pc := 159) 36 (vs := [(vi 115), (vi 105), (vi 110), (vi 103), (vi 108), (vi 101), (vi 116), (vi 111), (vi 110)]) rfl at_159 (w114 hw) (wS hw) m4 tx_73696e676c65746f6e (by decide) (by decide) (by decide) (fun a48 a49 => ?_)
       show W _ _ _ _ _ _ _ _ _ _ _ _ 161 _ [(vr a48)]
       refine W.astore (pc := 161) (ls' := #[iv z0, iv z1, iv z2, iv z3, rv a1, rv a3, .val u7, rv a10, iv ((z0 &&& (2147483647 : Int32)) % (3 : Int32)), iv ((z1 &&& (2147483647 : Int32)) % (3 : Int32)), rv a48, uu, uu, uu]) at_161 rfl rfl ?_
       refine W.goto (pc := 163) 183 at_163 (by decide) ?_
       refine W.aload (pc := 183) 7 at_183 rfl rfl ?_
       refine W.callV (pc := 185) (as := []) 0 [] at_185 (w115 hw) (w116 hw) (w118 hw) (w118 hw) (w117 hw) (w32 hw) (w119 hw) (Hp.exa m2) (c38_getScope hw hs (p1 := a10) (p2 := a11) (p3 := a12) (p4 := a13) (p5 := a3) (p6 := a46) (p7 := a4) (p8 := a47) (x1 := (z2 &&& (255 : Int32)).toInt8.toInt32) (hx1 := (by have := rng32 z2; have := q255; have := am_255 z2; have := a_i2b (z2 &&& (255 : Int32)); have := rng32 z0; have := q2147483647; have := am_2147483647 z0; have := q3; have := arem_3 (z0 &&& (2147483647 : Int32)); have := q1; have := q2; have := rng32 z1; have := am_2147483647 z1; have := arem_3 (z1 &&& (2147483647 : Int32)); omega)) (x2 := ((XT.ushr z2 (8 : Int32)) &&& (255 : Int32)).toInt8.toInt32) (hx2 := (by have := rng32 z2; have := q8; have := aushr_8 z2; have := q255; have := am_255 (XT.ushr z2 (8 : Int32)); have := a_i2b ((XT.ushr z2 (8 : Int32)) &&& (255 : Int32)); have := rng32 z0; have := q2147483647; have := am_2147483647 z0; have := q3; have := arem_3 (z0 &&& (2147483647 : Int32)); have := q1; have := q2; have := rng32 z1; have := am_2147483647 z1; have := arem_3 (z1 &&& (2147483647 : Int32)); omega)) (u1 := u7) (hu1 := hu7) (mp1 := m2)) (by decide) pd__Ljava_lang_String_ rfl rfl rfl rfl (by decide) (fun v D' h => ?_)
       obtain ⟨rfl, rfl⟩ := h
       show W _ _ _ _ _ _ _ _ _ _ _ _ 188 _ [(vr a46)]
       refine W.astore (pc := 188) (ls' := #[iv z0, iv z1, iv z2, iv z3, rv a1, rv a3, .val u7, rv a10, iv ((z0 &&& (2147483647 : Int32)) % (3 : Int32)), iv ((z1 &&& (2147483647 : Int32)) % (3 : Int32)), rv a48, rv a46, uu, uu]) at_188 rfl rfl ?_
       refine W.aload (pc := 190) 7 at_190 rfl rfl ?_
       refine W.callV (pc := 192) (as := []) 0 [] at_192 (w115 hw) (w116 hw) (w118 hw) (w118 hw) (w117 hw) (w32 hw) (w119 hw) (Hp.exa m2) (c38_getScope hw hs (p1 := a10) (p2 := a11) (p3 := a12) (p4 := a13) (p5 := a3) (p6 := a46) (p7 := a4) (p8 := a47) (x1 := (z2 &&& (255 : Int32)).toInt8.toInt32) (hx1 := (by have := rng32 z2; have := q255; have := am_255 z2; have := a_i2b (z2 &&& (255 : Int32)); have := rng32 z0; have := q2147483647; have := am_2147483647 z0; have := q3; have := arem_3 (z0 &&& (2147483647 : Int32)); have := q1; have := q2; have := rng32 z1; have := am_2147483647 z1; have := arem_3 (z1 &&& (2147483647 : Int32)); omega)) (x2 := ((XT.ushr z2 (8 : Int32)) &&& (255 : Int32)).toInt8.toInt32) (hx2 := (by have := rng32 z2; have := q8; have := aushr_8 z2; have := q255; have := am_255 (XT.ushr z2 (8 : Int32)); have := a_i2b ((XT.ushr z2 (8 : Int32)) &&& (255 : Int32)); have := rng32 z0; have := q2147483647; have := am_2147483647 z0; have := q3; have := arem_3 (z0 &&& (2147483647 : Int32)); have := q1; have := q2; have := rng32 z1; have := am_2147483647 z1; have := arem_3 (z1 &&& (2147483647 : Int32)); omega)) (u1 := u7) (hu1 := hu7) (mp1 := m2)) (by decide) pd__Ljava_lang_String_ rfl rfl rfl rfl (by decide) (fun v D' h => ?_)
       obtain ⟨rfl, rfl⟩ := h
       show W _ _ _ _ _ _ _ _ _ _ _ _ 195 _ [(vr a46)]
       refine W.astore (pc := 195) (ls' := #[iv z0, iv z1, iv z2, iv z3, rv a1, rv a3, .val u7, rv a10, iv ((z0 &&& (2147483647 : Int32)) % (3 : Int32)), iv ((z1 &&& (2147483647 : Int32)) % (3 : Int32)), rv a48, rv a46, rv a46, uu]) at_195 rfl rfl ?_
       refine W.aload (pc := 197) 11 at_197 rfl rfl ?_
       refine W.ifnullN (pc := 199) at_199 ?_
       refine W.aload (pc := 202) 12 at_202 rfl rfl ?_
       refine W.ifnonnullY (pc := 204) 209 at_204 (by decide) ?_
       refine W.aload (pc := 209) 10 at_209 rfl rfl ?_
       refine W.ldcT (pc := 211) 36 (vs := [(vi 115), (vi 105), (vi 110), (vi 103), (vi 108), (vi 101), (vi 116), (vi 111), (vi 110)]) rfl at_211 (w114 hw) (wS hw) m4 tx_73696e676c65746f6e (by decide) (by decide) (by decide) (fun a50 a51 => ?_)
       show W _ _ _ _ _ _ _ _ _ _ _ _ 213 _ [(vr a50), (vr a48)]
       refine W.callV (pc := 213) (as := [(vr a50)]) 0 [] at_213 (w123 hw) (w124 hw) (w126 hw) (w126 hw) (w125 hw) (w3 hw) (w127 hw) (Hp.exa m2) (c22_equals hw hs (p1 := a48) (p2 := a50) (p3 := a49) (p4 := a51) (mp2 := m0) (mp1 := m2) (mp3 := m3) (mp4 := m1)) (by decide) pd_Ljava_lang_Object__Z rfl rfl rfl rfl (by decide) (fun v D' h => ?_)
       obtain ⟨rfl, rfl⟩ := h
       show W _ _ _ _ _ _ _ _ _ _ _ _ 216 _ [(vi 1)]
       refine W.istore (pc := 216) (ls' := #[iv z0, iv z1, iv z2, iv z3, rv a1, rv a3, .val u7, rv a10, iv ((z0 &&& (2147483647 : Int32)) % (3 : Int32)), iv ((z1 &&& (2147483647 : Int32)) % (3 : Int32)), rv a48, rv a46, rv a46, iv 1]) at_216 rfl ?_
       refine W.aload (pc := 218) 11 at_218 rfl rfl ?_
       refine W.aload (pc := 220) 10 at_220 rfl rfl ?_
       refine W.callV (pc := 222) (as := [(vr a48)]) 0 [] at_222 (w123 hw) (w124 hw) (w126 hw) (w126 hw) (w125 hw) (w3 hw) (w127 hw) (Hp.exa m5) (c22_equals hw hs (p1 := a46) (p2 := a48) (p3 := a47) (p4 := a49) (mp2 := m2) (mp1 := m5) (mp3 := m6) (mp4 := m3)) (by decide) pd_Ljava_lang_Object__Z rfl rfl rfl rfl (by decide) (fun v D' h => ?_)
       obtain ⟨rfl, rfl⟩ := h
       show W _ _ _ _ _ _ _ _ _ _ _ _ 225 _ [(vi 1)]
       refine W.ifN (pc := 225) at_225 (n_eq (by decide)) ?_
       refine W.aload (pc := 228) 12 at_228 rfl rfl ?_
       refine W.aload (pc := 230) 11 at_230 rfl rfl ?_
       refine W.callV (pc := 232) (as := [(vr a46)]) 0 [] at_232 (w123 hw) (w124 hw) (w126 hw) (w126 hw) (w125 hw) (w3 hw) (w127 hw) (Hp.exa m5) (c39_equals hw hs (p1 := a46) (p2 := a47)) (by decide) pd_Ljava_lang_Object__Z rfl rfl rfl rfl (by decide) (fun v D' h => ?_)
       obtain ⟨rfl, rfl⟩ := h
       show W _ _ _ _ _ _ _ _ _ _ _ _ 235 _ [(vi 1)]
       refine W.ifN (pc := 235) at_235 (n_eq (by decide)) ?_
       refine W.aload (pc := 238) 7 at_238 rfl rfl ?_
       refine W.callV (pc := 240) (as := []) 0 [] at_240 (w128 hw) (w129 hw) (w131 hw) (w131 hw) (w130 hw) (w32 hw) (w132 hw) (Hp.exa m4) (c40_isSingleton hw hs (p1 := a10) (p2 := a11) (p3 := a12) (p4 := a13) (p5 := a3) (p6 := a46) (p7 := a4) (p8 := a47) (x1 := (z2 &&& (255 : Int32)).toInt8.toInt32) (hx1 := (by have := rng32 z2; have := q255; have := am_255 z2; have := a_i2b (z2 &&& (255 : Int32)); have := rng32 z0; have := q2147483647; have := am_2147483647 z0; have := q3; have := arem_3 (z0 &&& (2147483647 : Int32)); have := q1; have := q2; have := rng32 z1; have := am_2147483647 z1; have := arem_3 (z1 &&& (2147483647 : Int32)); omega)) (x2 := ((XT.ushr z2 (8 : Int32)) &&& (255 : Int32)).toInt8.toInt32) (hx2 := (by have := rng32 z2; have := q8; have := aushr_8 z2; have := q255; have := am_255 (XT.ushr z2 (8 : Int32)); have := a_i2b ((XT.ushr z2 (8 : Int32)) &&& (255 : Int32)); have := rng32 z0; have := q2147483647; have := am_2147483647 z0; have := q3; have := arem_3 (z0 &&& (2147483647 : Int32)); have := q1; have := q2; have := rng32 z1; have := am_2147483647 z1; have := arem_3 (z1 &&& (2147483647 : Int32)); omega)) (u1 := u7) (hu1 := hu7) (mp1 := m4) (mp6 := m5) (mp8 := m6)) (by decide) pd__Z rfl rfl rfl rfl (by decide) (fun v D' h => ?_)
       obtain ⟨rfl, rfl⟩ := h
       show W _ _ _ _ _ _ _ _ _ _ _ _ 243 _ [(vi 1)]
       refine W.iload (pc := 243) at_243 rfl ?_
       refine W.icmpN (pc := 245) at_245 (n_ne (by decide)) ?_
       refine W.iconst (pc := 248) (1) at_248 (by decide) ?_
       refine W.goto (pc := 249) 253 at_249 (by decide) ?_
       exact W.ireturn (pc := 253) at_253 rfl (Or.inr (Or.inl rfl)) (nw_bool (by decide)) (by decide) rfl
    ·
     have ih1 := f_ne h1
     refine W.aload (pc := 115) 7 at_115 rfl rfl ?_
     refine W.ldcT (pc := 117) 36 (vs := [(vi 115), (vi 105), (vi 110), (vi 103), (vi 108), (vi 101), (vi 116), (vi 111), (vi 110)]) rfl at_117 (w114 hw) (wS hw) m4 tx_73696e676c65746f6e (by decide) (by decide) (by decide) (fun a52 a53 => ?_)
     show W _ _ _ _ _ _ _ _ _ _ _ _ 119 _ [(vr a52), (vr a10)]
     refine W.front 7 (D' := (a10, true, oBeanDefinition (vr (g1 Z)) (vr a11) (vr a12) (vr a13) u7 (vr a3) .null) :: (a52, false, oString (vr a53) (vi 0)) :: (a53, false, ar "" .byte [(vi 115), (vi 105), (vi 110), (vi 103), (vi 108), (vi 101), (vi 116), (vi 111), (vi 110)]) :: (a14, false, oString (vr a15) (vi 0)) :: (a15, false, ar "" .byte [(vi 115), (vi 105), (vi 110), (vi 103), (vi 108), (vi 101), (vi 116), (vi 111), (vi 110)]) :: (a13, true, oLinkedHashMap (.float 1061158912) (vi 0) (vi 0)) :: (a12, true, oLinkedHashMap (.float 1061158912) (vi 0) (vi 0)) :: (a11, true, oArrayList (vi 0) (vr (g2 Z))) :: (a1, true, ar "[C" .char [(vi (z2 &&& (255 : Int32))), (vi ((XT.ushr z2 (8 : Int32)) &&& (255 : Int32)))]) :: (a3, true, oString (vr a4) (vi 0)) :: (a4, true, ar "[B" .byte [(vi (z2 &&& (255 : Int32)).toInt8.toInt32), (vi ((XT.ushr z2 (8 : Int32)) &&& (255 : Int32)).toInt8.toInt32)]) :: []) rfl rfl ?_
     refine W.callV (pc := 119) (as := [(vr a52)]) 0 [] at_119 (w135 hw) (w136 hw) (w138 hw) (w138 hw) (w137 hw) (w32 hw) (w139 hw) (Hp.exa m0) (c36_setScope hw hs (p1 := a10) (p2 := a52) (p3 := a11) (p4 := a12) (p5 := a13) (p6 := a3) (p7 := a53) (p8 := a4) (x1 := (z2 &&& (255 : Int32)).toInt8.toInt32) (hx1 := (by have := rng32 z2; have := q255; have := am_255 z2; have := a_i2b (z2 &&& (255 : Int32)); have := rng32 z0; have := q2147483647; have := am_2147483647 z0; have := q3; have := arem_3 (z0 &&& (2147483647 : Int32)); have := q1; omega)) (x2 := ((XT.ushr z2 (8 : Int32)) &&& (255 : Int32)).toInt8.toInt32) (hx2 := (by have := rng32 z2; have := q8; have := aushr_8 z2; have := q255; have := am_255 (XT.ushr z2 (8 : Int32)); have := a_i2b ((XT.ushr z2 (8 : Int32)) &&& (255 : Int32)); have := rng32 z0; have := q2147483647; have := am_2147483647 z0; have := q3; have := arem_3 (z0 &&& (2147483647 : Int32)); have := q1; omega)) (u1 := u7) (hu1 := hu7) (mp2 := m0) (mp7 := m1)) (by decide) pd_Ljava_lang_String__V rfl rfl rfl rfl (by decide) (fun v D' h => ?_)
     obtain ⟨rfl, rfl⟩ := h
     show W _ _ _ _ _ _ _ _ _ _ _ _ 122 _ []
     refine W.ldcT (pc := 122) 36 (vs := [(vi 115), (vi 105), (vi 110), (vi 103), (vi 108), (vi 101), (vi 116), (vi 111), (vi 110)]) rfl at_122 (w114 hw) (wS hw) m4 tx_73696e676c65746f6e (by decide) (by decide) (by decide) (fun a54 a55 => ?_)
     show W _ _ _ _ _ _ _ _ _ _ _ _ 124 _ [(vr a54)]
     refine W.astore (pc := 124) (ls' := #[iv z0, iv z1, iv z2, iv z3, rv a1, rv a3, .val u7, rv a10, iv ((z0 &&& (2147483647 : Int32)) % (3 : Int32)), iv ((z1 &&& (2147483647 : Int32)) % (3 : Int32)), rv a54, uu, uu, uu]) at_124 rfl rfl ?_
     refine W.goto (pc := 126) 146 at_126 (by decide) ?_
     refine W.iload (pc := 146) at_146 rfl ?_
     refine W.iconst (pc := 148) (1) at_148 (by decide) ?_
     refine W.icmp (pc := 149) 166 at_149 (by decide) (fun h7 => ?_) (fun h7 => ?_)
     ·
      have ih7 := t_ne h7
      refine W.iload (pc := 166) at_166 rfl ?_
      refine W.iconst (pc := 168) (2) at_168 (by decide) ?_
      refine W.icmp (pc := 169) 183 at_169 (by decide) (fun h8 => ?_) (fun h8 => ?_)
      ·
       have ih8 := t_ne h8
       refine W.aload (pc := 183) 7 at_183 rfl rfl ?_
       refine W.callV (pc := 185) (as := []) 0 [] at_185 (w115 hw) (w116 hw) (w118 hw) (w118 hw) (w117 hw) (w32 hw) (w119 hw) (Hp.exa m2) (c38_getScope hw hs (p1 := a10) (p2 := a11) (p3 := a12) (p4 := a13) (p5 := a3) (p6 := a52) (p7 := a4) (p8 := a53) (x1 := (z2 &&& (255 : Int32)).toInt8.toInt32) (hx1 := (by have := rng32 z2; have := q255; have := am_255 z2; have := a_i2b (z2 &&& (255 : Int32)); have := rng32 z0; have := q2147483647; have := am_2147483647 z0; have := q3; have := arem_3 (z0 &&& (2147483647 : Int32)); have := q1; have := rng32 z1; have := am_2147483647 z1; have := arem_3 (z1 &&& (2147483647 : Int32)); have := q2; omega)) (x2 := ((XT.ushr z2 (8 : Int32)) &&& (255 : Int32)).toInt8.toInt32) (hx2 := (by have := rng32 z2; have := q8; have := aushr_8 z2; have := q255; have := am_255 (XT.ushr z2 (8 : Int32)); have := a_i2b ((XT.ushr z2 (8 : Int32)) &&& (255 : Int32)); have := rng32 z0; have := q2147483647; have := am_2147483647 z0; have := q3; have := arem_3 (z0 &&& (2147483647 : Int32)); have := q1; have := rng32 z1; have := am_2147483647 z1; have := arem_3 (z1 &&& (2147483647 : Int32)); have := q2; omega)) (u1 := u7) (hu1 := hu7) (mp1 := m2)) (by decide) pd__Ljava_lang_String_ rfl rfl rfl rfl (by decide) (fun v D' h => ?_)
       obtain ⟨rfl, rfl⟩ := h
       show W _ _ _ _ _ _ _ _ _ _ _ _ 188 _ [(vr a52)]
       refine W.astore (pc := 188) (ls' := #[iv z0, iv z1, iv z2, iv z3, rv a1, rv a3, .val u7, rv a10, iv ((z0 &&& (2147483647 : Int32)) % (3 : Int32)), iv ((z1 &&& (2147483647 : Int32)) % (3 : Int32)), rv a54, rv a52, uu, uu]) at_188 rfl rfl ?_
       refine W.aload (pc := 190) 7 at_190 rfl rfl ?_
       refine W.callV (pc := 192) (as := []) 0 [] at_192 (w115 hw) (w116 hw) (w118 hw) (w118 hw) (w117 hw) (w32 hw) (w119 hw) (Hp.exa m2) (c38_getScope hw hs (p1 := a10) (p2 := a11) (p3 := a12) (p4 := a13) (p5 := a3) (p6 := a52) (p7 := a4) (p8 := a53) (x1 := (z2 &&& (255 : Int32)).toInt8.toInt32) (hx1 := (by have := rng32 z2; have := q255; have := am_255 z2; have := a_i2b (z2 &&& (255 : Int32)); have := rng32 z0; have := q2147483647; have := am_2147483647 z0; have := q3; have := arem_3 (z0 &&& (2147483647 : Int32)); have := q1; have := rng32 z1; have := am_2147483647 z1; have := arem_3 (z1 &&& (2147483647 : Int32)); have := q2; omega)) (x2 := ((XT.ushr z2 (8 : Int32)) &&& (255 : Int32)).toInt8.toInt32) (hx2 := (by have := rng32 z2; have := q8; have := aushr_8 z2; have := q255; have := am_255 (XT.ushr z2 (8 : Int32)); have := a_i2b ((XT.ushr z2 (8 : Int32)) &&& (255 : Int32)); have := rng32 z0; have := q2147483647; have := am_2147483647 z0; have := q3; have := arem_3 (z0 &&& (2147483647 : Int32)); have := q1; have := rng32 z1; have := am_2147483647 z1; have := arem_3 (z1 &&& (2147483647 : Int32)); have := q2; omega)) (u1 := u7) (hu1 := hu7) (mp1 := m2)) (by decide) pd__Ljava_lang_String_ rfl rfl rfl rfl (by decide) (fun v D' h => ?_)
       obtain ⟨rfl, rfl⟩ := h
       show W _ _ _ _ _ _ _ _ _ _ _ _ 195 _ [(vr a52)]
       refine W.astore (pc := 195) (ls' := #[iv z0, iv z1, iv z2, iv z3, rv a1, rv a3, .val u7, rv a10, iv ((z0 &&& (2147483647 : Int32)) % (3 : Int32)), iv ((z1 &&& (2147483647 : Int32)) % (3 : Int32)), rv a54, rv a52, rv a52, uu]) at_195 rfl rfl ?_
       refine W.aload (pc := 197) 11 at_197 rfl rfl ?_
       refine W.ifnullN (pc := 199) at_199 ?_
       refine W.aload (pc := 202) 12 at_202 rfl rfl ?_
       refine W.ifnonnullY (pc := 204) 209 at_204 (by decide) ?_
       refine W.aload (pc := 209) 10 at_209 rfl rfl ?_
       refine W.ldcT (pc := 211) 36 (vs := [(vi 115), (vi 105), (vi 110), (vi 103), (vi 108), (vi 101), (vi 116), (vi 111), (vi 110)]) rfl at_211 (w114 hw) (wS hw) m4 tx_73696e676c65746f6e (by decide) (by decide) (by decide) (fun a56 a57 => ?_)
       show W _ _ _ _ _ _ _ _ _ _ _ _ 213 _ [(vr a56), (vr a54)]
       refine W.callV (pc := 213) (as := [(vr a56)]) 0 [] at_213 (w123 hw) (w124 hw) (w126 hw) (w126 hw) (w125 hw) (w3 hw) (w127 hw) (Hp.exa m2) (c22_equals hw hs (p1 := a54) (p2 := a56) (p3 := a55) (p4 := a57) (mp2 := m0) (mp1 := m2) (mp3 := m3) (mp4 := m1)) (by decide) pd_Ljava_lang_Object__Z rfl rfl rfl rfl (by decide) (fun v D' h => ?_)
       obtain ⟨rfl, rfl⟩ := h
       show W _ _ _ _ _ _ _ _ _ _ _ _ 216 _ [(vi 1)]
       refine W.istore (pc := 216) (ls' := #[iv z0, iv z1, iv z2, iv z3, rv a1, rv a3, .val u7, rv a10, iv ((z0 &&& (2147483647 : Int32)) % (3 : Int32)), iv ((z1 &&& (2147483647 : Int32)) % (3 : Int32)), rv a54, rv a52, rv a52, iv 1]) at_216 rfl ?_
       refine W.aload (pc := 218) 11 at_218 rfl rfl ?_
       refine W.aload (pc := 220) 10 at_220 rfl rfl ?_
       refine W.callV (pc := 222) (as := [(vr a54)]) 0 [] at_222 (w123 hw) (w124 hw) (w126 hw) (w126 hw) (w125 hw) (w3 hw) (w127 hw) (Hp.exa m5) (c22_equals hw hs (p1 := a52) (p2 := a54) (p3 := a53) (p4 := a55) (mp2 := m2) (mp1 := m5) (mp3 := m6) (mp4 := m3)) (by decide) pd_Ljava_lang_Object__Z rfl rfl rfl rfl (by decide) (fun v D' h => ?_)
       obtain ⟨rfl, rfl⟩ := h
       show W _ _ _ _ _ _ _ _ _ _ _ _ 225 _ [(vi 1)]
       refine W.ifN (pc := 225) at_225 (n_eq (by decide)) ?_
       refine W.aload (pc := 228) 12 at_228 rfl rfl ?_
       refine W.aload (pc := 230) 11 at_230 rfl rfl ?_
       refine W.callV (pc := 232) (as := [(vr a52)]) 0 [] at_232 (w123 hw) (w124 hw) (w126 hw) (w126 hw) (w125 hw) (w3 hw) (w127 hw) (Hp.exa m5) (c39_equals hw hs (p1 := a52) (p2 := a53)) (by decide) pd_Ljava_lang_Object__Z rfl rfl rfl rfl (by decide) (fun v D' h => ?_)
       obtain ⟨rfl, rfl⟩ := h
       show W _ _ _ _ _ _ _ _ _ _ _ _ 235 _ [(vi 1)]
       refine W.ifN (pc := 235) at_235 (n_eq (by decide)) ?_
       refine W.aload (pc := 238) 7 at_238 rfl rfl ?_
       refine W.callV (pc := 240) (as := []) 0 [] at_240 (w128 hw) (w129 hw) (w131 hw) (w131 hw) (w130 hw) (w32 hw) (w132 hw) (Hp.exa m4) (c40_isSingleton hw hs (p1 := a10) (p2 := a11) (p3 := a12) (p4 := a13) (p5 := a3) (p6 := a52) (p7 := a4) (p8 := a53) (x1 := (z2 &&& (255 : Int32)).toInt8.toInt32) (hx1 := (by have := rng32 z2; have := q255; have := am_255 z2; have := a_i2b (z2 &&& (255 : Int32)); have := rng32 z0; have := q2147483647; have := am_2147483647 z0; have := q3; have := arem_3 (z0 &&& (2147483647 : Int32)); have := q1; have := rng32 z1; have := am_2147483647 z1; have := arem_3 (z1 &&& (2147483647 : Int32)); have := q2; omega)) (x2 := ((XT.ushr z2 (8 : Int32)) &&& (255 : Int32)).toInt8.toInt32) (hx2 := (by have := rng32 z2; have := q8; have := aushr_8 z2; have := q255; have := am_255 (XT.ushr z2 (8 : Int32)); have := a_i2b ((XT.ushr z2 (8 : Int32)) &&& (255 : Int32)); have := rng32 z0; have := q2147483647; have := am_2147483647 z0; have := q3; have := arem_3 (z0 &&& (2147483647 : Int32)); have := q1; have := rng32 z1; have := am_2147483647 z1; have := arem_3 (z1 &&& (2147483647 : Int32)); have := q2; omega)) (u1 := u7) (hu1 := hu7) (mp1 := m4) (mp6 := m5) (mp8 := m6)) (by decide) pd__Z rfl rfl rfl rfl (by decide) (fun v D' h => ?_)
       obtain ⟨rfl, rfl⟩ := h
       show W _ _ _ _ _ _ _ _ _ _ _ _ 243 _ [(vi 1)]
       refine W.iload (pc := 243) at_243 rfl ?_
       refine W.icmpN (pc := 245) at_245 (n_ne (by decide)) ?_
       refine W.iconst (pc := 248) (1) at_248 (by decide) ?_
       refine W.goto (pc := 249) 253 at_249 (by decide) ?_
       exact W.ireturn (pc := 253) at_253 rfl (Or.inr (Or.inl rfl)) (nw_bool (by decide)) (by decide) rfl
      ·
       have ih8 := f_ne h8
       refine W.aload (pc := 172) 7 at_172 rfl rfl ?_
       refine W.ldcT (pc := 174) 36 (vs := [(vi 112), (vi 114), (vi 111), (vi 116), (vi 111), (vi 116), (vi 121), (vi 112), (vi 101)]) rfl at_174 (w141 hw) (wS hw) m5 tx_70726f746f74797065 (by decide) (by decide) (by decide) (fun a58 a59 => ?_)
       show W _ _ _ _ _ _ _ _ _ _ _ _ 176 _ [(vr a58), (vr a10)]
       refine W.front 4 (D' := (a10, true, oBeanDefinition (vr (g1 Z)) (vr a11) (vr a12) (vr a13) u7 (vr a3) (vr a52)) :: (a58, false, oString (vr a59) (vi 0)) :: (a59, false, ar "" .byte [(vi 112), (vi 114), (vi 111), (vi 116), (vi 111), (vi 116), (vi 121), (vi 112), (vi 101)]) :: (a54, false, oString (vr a55) (vi 0)) :: (a55, false, ar "" .byte [(vi 115), (vi 105), (vi 110), (vi 103), (vi 108), (vi 101), (vi 116), (vi 111), (vi 110)]) :: (a52, false, oString (vr a53) (vi 0)) :: (a53, false, ar "" .byte [(vi 115), (vi 105), (vi 110), (vi 103), (vi 108), (vi 101), (vi 116), (vi 111), (vi 110)]) :: (a14, false, oString (vr a15) (vi 0)) :: (a15, false, ar "" .byte [(vi 115), (vi 105), (vi 110), (vi 103), (vi 108), (vi 101), (vi 116), (vi 111), (vi 110)]) :: (a13, true, oLinkedHashMap (.float 1061158912) (vi 0) (vi 0)) :: (a12, true, oLinkedHashMap (.float 1061158912) (vi 0) (vi 0)) :: (a11, true, oArrayList (vi 0) (vr (g2 Z))) :: (a1, true, ar "[C" .char [(vi (z2 &&& (255 : Int32))), (vi ((XT.ushr z2 (8 : Int32)) &&& (255 : Int32)))]) :: (a3, true, oString (vr a4) (vi 0)) :: (a4, true, ar "[B" .byte [(vi (z2 &&& (255 : Int32)).toInt8.toInt32), (vi ((XT.ushr z2 (8 : Int32)) &&& (255 : Int32)).toInt8.toInt32)]) :: []) rfl rfl ?_
       refine W.callV (pc := 176) (as := [(vr a58)]) 0 [] at_176 (w135 hw) (w136 hw) (w138 hw) (w138 hw) (w137 hw) (w32 hw) (w139 hw) (Hp.exa m0) (c44_setScope hw hs (p1 := a10) (p2 := a58) (p3 := a11) (p4 := a12) (p5 := a13) (p6 := a3) (p7 := a52) (p8 := a59) (p9 := a4) (p10 := a53) (x1 := (z2 &&& (255 : Int32)).toInt8.toInt32) (hx1 := (by have := rng32 z2; have := q255; have := am_255 z2; have := a_i2b (z2 &&& (255 : Int32)); have := rng32 z0; have := q2147483647; have := am_2147483647 z0; have := q3; have := arem_3 (z0 &&& (2147483647 : Int32)); have := q1; have := rng32 z1; have := am_2147483647 z1; have := arem_3 (z1 &&& (2147483647 : Int32)); have := q2; omega)) (x2 := ((XT.ushr z2 (8 : Int32)) &&& (255 : Int32)).toInt8.toInt32) (hx2 := (by have := rng32 z2; have := q8; have := aushr_8 z2; have := q255; have := am_255 (XT.ushr z2 (8 : Int32)); have := a_i2b ((XT.ushr z2 (8 : Int32)) &&& (255 : Int32)); have := rng32 z0; have := q2147483647; have := am_2147483647 z0; have := q3; have := arem_3 (z0 &&& (2147483647 : Int32)); have := q1; have := rng32 z1; have := am_2147483647 z1; have := arem_3 (z1 &&& (2147483647 : Int32)); have := q2; omega)) (u1 := u7) (hu1 := hu7) (mp2 := m0) (mp8 := m1)) (by decide) pd_Ljava_lang_String__V rfl rfl rfl rfl (by decide) (fun v D' h => ?_)
       obtain ⟨rfl, rfl⟩ := h
       show W _ _ _ _ _ _ _ _ _ _ _ _ 179 _ []
       refine W.ldcT (pc := 179) 36 (vs := [(vi 112), (vi 114), (vi 111), (vi 116), (vi 111), (vi 116), (vi 121), (vi 112), (vi 101)]) rfl at_179 (w141 hw) (wS hw) m5 tx_70726f746f74797065 (by decide) (by decide) (by decide) (fun a60 a61 => ?_)
       show W _ _ _ _ _ _ _ _ _ _ _ _ 181 _ [(vr a60)]
       refine W.astore (pc := 181) (ls' := #[iv z0, iv z1, iv z2, iv z3, rv a1, rv a3, .val u7, rv a10, iv ((z0 &&& (2147483647 : Int32)) % (3 : Int32)), iv ((z1 &&& (2147483647 : Int32)) % (3 : Int32)), rv a60, uu, uu, uu]) at_181 rfl rfl ?_
       refine W.aload (pc := 183) 7 at_183 rfl rfl ?_
       refine W.callV (pc := 185) (as := []) 0 [] at_185 (w115 hw) (w116 hw) (w118 hw) (w118 hw) (w117 hw) (w32 hw) (w119 hw) (Hp.exa m2) (c32_getScope hw hs (p1 := a10) (p2 := a11) (p3 := a12) (p4 := a13) (p5 := a3) (p6 := a58) (p7 := a4) (p8 := a59) (x1 := (z2 &&& (255 : Int32)).toInt8.toInt32) (hx1 := (by have := rng32 z2; have := q255; have := am_255 z2; have := a_i2b (z2 &&& (255 : Int32)); have := rng32 z0; have := q2147483647; have := am_2147483647 z0; have := q3; have := arem_3 (z0 &&& (2147483647 : Int32)); have := q1; have := rng32 z1; have := am_2147483647 z1; have := arem_3 (z1 &&& (2147483647 : Int32)); have := q2; omega)) (x2 := ((XT.ushr z2 (8 : Int32)) &&& (255 : Int32)).toInt8.toInt32) (hx2 := (by have := rng32 z2; have := q8; have := aushr_8 z2; have := q255; have := am_255 (XT.ushr z2 (8 : Int32)); have := a_i2b ((XT.ushr z2 (8 : Int32)) &&& (255 : Int32)); have := rng32 z0; have := q2147483647; have := am_2147483647 z0; have := q3; have := arem_3 (z0 &&& (2147483647 : Int32)); have := q1; have := rng32 z1; have := am_2147483647 z1; have := arem_3 (z1 &&& (2147483647 : Int32)); have := q2; omega)) (u1 := u7) (hu1 := hu7) (mp1 := m2)) (by decide) pd__Ljava_lang_String_ rfl rfl rfl rfl (by decide) (fun v D' h => ?_)
       obtain ⟨rfl, rfl⟩ := h
       show W _ _ _ _ _ _ _ _ _ _ _ _ 188 _ [(vr a58)]
       refine W.astore (pc := 188) (ls' := #[iv z0, iv z1, iv z2, iv z3, rv a1, rv a3, .val u7, rv a10, iv ((z0 &&& (2147483647 : Int32)) % (3 : Int32)), iv ((z1 &&& (2147483647 : Int32)) % (3 : Int32)), rv a60, rv a58, uu, uu]) at_188 rfl rfl ?_
       refine W.aload (pc := 190) 7 at_190 rfl rfl ?_
       refine W.callV (pc := 192) (as := []) 0 [] at_192 (w115 hw) (w116 hw) (w118 hw) (w118 hw) (w117 hw) (w32 hw) (w119 hw) (Hp.exa m2) (c32_getScope hw hs (p1 := a10) (p2 := a11) (p3 := a12) (p4 := a13) (p5 := a3) (p6 := a58) (p7 := a4) (p8 := a59) (x1 := (z2 &&& (255 : Int32)).toInt8.toInt32) (hx1 := (by have := rng32 z2; have := q255; have := am_255 z2; have := a_i2b (z2 &&& (255 : Int32)); have := rng32 z0; have := q2147483647; have := am_2147483647 z0; have := q3; have := arem_3 (z0 &&& (2147483647 : Int32)); have := q1; have := rng32 z1; have := am_2147483647 z1; have := arem_3 (z1 &&& (2147483647 : Int32)); have := q2; omega)) (x2 := ((XT.ushr z2 (8 : Int32)) &&& (255 : Int32)).toInt8.toInt32) (hx2 := (by have := rng32 z2; have := q8; have := aushr_8 z2; have := q255; have := am_255 (XT.ushr z2 (8 : Int32)); have := a_i2b ((XT.ushr z2 (8 : Int32)) &&& (255 : Int32)); have := rng32 z0; have := q2147483647; have := am_2147483647 z0; have := q3; have := arem_3 (z0 &&& (2147483647 : Int32)); have := q1; have := rng32 z1; have := am_2147483647 z1; have := arem_3 (z1 &&& (2147483647 : Int32)); have := q2; omega)) (u1 := u7) (hu1 := hu7) (mp1 := m2)) (by decide) pd__Ljava_lang_String_ rfl rfl rfl rfl (by decide) (fun v D' h => ?_)
       obtain ⟨rfl, rfl⟩ := h
       show W _ _ _ _ _ _ _ _ _ _ _ _ 195 _ [(vr a58)]
       refine W.astore (pc := 195) (ls' := #[iv z0, iv z1, iv z2, iv z3, rv a1, rv a3, .val u7, rv a10, iv ((z0 &&& (2147483647 : Int32)) % (3 : Int32)), iv ((z1 &&& (2147483647 : Int32)) % (3 : Int32)), rv a60, rv a58, rv a58, uu]) at_195 rfl rfl ?_
       refine W.aload (pc := 197) 11 at_197 rfl rfl ?_
       refine W.ifnullN (pc := 199) at_199 ?_
       refine W.aload (pc := 202) 12 at_202 rfl rfl ?_
       refine W.ifnonnullY (pc := 204) 209 at_204 (by decide) ?_
       refine W.aload (pc := 209) 10 at_209 rfl rfl ?_
       refine W.ldcT (pc := 211) 36 (vs := [(vi 115), (vi 105), (vi 110), (vi 103), (vi 108), (vi 101), (vi 116), (vi 111), (vi 110)]) rfl at_211 (w114 hw) (wS hw) m4 tx_73696e676c65746f6e (by decide) (by decide) (by decide) (fun a62 a63 => ?_)
       show W _ _ _ _ _ _ _ _ _ _ _ _ 213 _ [(vr a62), (vr a60)]
       refine W.callV (pc := 213) (as := [(vr a62)]) 0 [] at_213 (w123 hw) (w124 hw) (w126 hw) (w126 hw) (w125 hw) (w3 hw) (w127 hw) (Hp.exa m2) (c28_equals hw hs (p1 := a60) (p2 := a62) (p3 := a61) (p4 := a63) (mp1 := m2) (mp2 := m0) (mp3 := m3) (mp4 := m1)) (by decide) pd_Ljava_lang_Object__Z rfl rfl rfl rfl (by decide) (fun v D' h => ?_)
       obtain ⟨rfl, rfl⟩ := h
       show W _ _ _ _ _ _ _ _ _ _ _ _ 216 _ [(vi 0)]
       refine W.istore (pc := 216) (ls' := #[iv z0, iv z1, iv z2, iv z3, rv a1, rv a3, .val u7, rv a10, iv ((z0 &&& (2147483647 : Int32)) % (3 : Int32)), iv ((z1 &&& (2147483647 : Int32)) % (3 : Int32)), rv a60, rv a58, rv a58, iv 0]) at_216 rfl ?_
       refine W.aload (pc := 218) 11 at_218 rfl rfl ?_
       refine W.aload (pc := 220) 10 at_220 rfl rfl ?_
       refine W.callV (pc := 222) (as := [(vr a60)]) 0 [] at_222 (w123 hw) (w124 hw) (w126 hw) (w126 hw) (w125 hw) (w3 hw) (w127 hw) (Hp.exa m5) (c30_equals hw hs (p1 := a58) (p2 := a60) (p3 := a59) (p4 := a61) (mp2 := m2) (mp1 := m5) (mp3 := m6) (mp4 := m3)) (by decide) pd_Ljava_lang_Object__Z rfl rfl rfl rfl (by decide) (fun v D' h => ?_)
       obtain ⟨rfl, rfl⟩ := h
       show W _ _ _ _ _ _ _ _ _ _ _ _ 225 _ [(vi 1)]
       refine W.ifN (pc := 225) at_225 (n_eq (by decide)) ?_
       refine W.aload (pc := 228) 12 at_228 rfl rfl ?_
       refine W.aload (pc := 230) 11 at_230 rfl rfl ?_
       refine W.callV (pc := 232) (as := [(vr a58)]) 0 [] at_232 (w123 hw) (w124 hw) (w126 hw) (w126 hw) (w125 hw) (w3 hw) (w127 hw) (Hp.exa m5) (c33_equals hw hs (p1 := a58) (p2 := a59)) (by decide) pd_Ljava_lang_Object__Z rfl rfl rfl rfl (by decide) (fun v D' h => ?_)
       obtain ⟨rfl, rfl⟩ := h
       show W _ _ _ _ _ _ _ _ _ _ _ _ 235 _ [(vi 1)]
       refine W.ifN (pc := 235) at_235 (n_eq (by decide)) ?_
       refine W.aload (pc := 238) 7 at_238 rfl rfl ?_
       refine W.callV (pc := 240) (as := []) 0 [] at_240 (w128 hw) (w129 hw) (w131 hw) (w131 hw) (w130 hw) (w32 hw) (w132 hw) (Hp.exa m4) (c34_isSingleton hw hs (p1 := a10) (p2 := a11) (p3 := a12) (p4 := a13) (p5 := a3) (p6 := a58) (p7 := a4) (p8 := a59) (x1 := (z2 &&& (255 : Int32)).toInt8.toInt32) (hx1 := (by have := rng32 z2; have := q255; have := am_255 z2; have := a_i2b (z2 &&& (255 : Int32)); have := rng32 z0; have := q2147483647; have := am_2147483647 z0; have := q3; have := arem_3 (z0 &&& (2147483647 : Int32)); have := q1; have := rng32 z1; have := am_2147483647 z1; have := arem_3 (z1 &&& (2147483647 : Int32)); have := q2; omega)) (x2 := ((XT.ushr z2 (8 : Int32)) &&& (255 : Int32)).toInt8.toInt32) (hx2 := (by have := rng32 z2; have := q8; have := aushr_8 z2; have := q255; have := am_255 (XT.ushr z2 (8 : Int32)); have := a_i2b ((XT.ushr z2 (8 : Int32)) &&& (255 : Int32)); have := rng32 z0; have := q2147483647; have := am_2147483647 z0; have := q3; have := arem_3 (z0 &&& (2147483647 : Int32)); have := q1; have := rng32 z1; have := am_2147483647 z1; have := arem_3 (z1 &&& (2147483647 : Int32)); have := q2; omega)) (u1 := u7) (hu1 := hu7) (mp1 := m4) (mp6 := m5) (mp8 := m6)) (by decide) pd__Z rfl rfl rfl rfl (by decide) (fun v D' h => ?_)
       obtain ⟨rfl, rfl⟩ := h
       show W _ _ _ _ _ _ _ _ _ _ _ _ 243 _ [(vi 0)]
       refine W.iload (pc := 243) at_243 rfl ?_
       refine W.icmpN (pc := 245) at_245 (n_ne (by decide)) ?_
       refine W.iconst (pc := 248) (1) at_248 (by decide) ?_
       refine W.goto (pc := 249) 253 at_249 (by decide) ?_
       exact W.ireturn (pc := 253) at_253 rfl (Or.inr (Or.inl rfl)) (nw_bool (by decide)) (by decide) rfl
     ·
      have ih7 := f_ne h7
      refine W.aload (pc := 152) 7 at_152 rfl rfl ?_
      refine W.ldcT (pc := 154) 36 (vs := [(vi 115), (vi 105), (vi 110), (vi 103), (vi 108), (vi 101), (vi 116), (vi 111), (vi 110)]) rfl at_154 (w114 hw) (wS hw) m4 tx_73696e676c65746f6e (by decide) (by decide) (by decide) (fun a64 a65 => ?_)
      show W _ _ _ _ _ _ _ _ _ _ _ _ 156 _ [(vr a64), (vr a10)]
      refine W.front 4 (D' := (a10, true, oBeanDefinition (vr (g1 Z)) (vr a11) (vr a12) (vr a13) u7 (vr a3) (vr a52)) :: (a64, false, oString (vr a65) (vi 0)) :: (a65, false, ar "" .byte [(vi 115), (vi 105), (vi 110), (vi 103), (vi 108), (vi 101), (vi 116), (vi 111), (vi 110)]) :: (a54, false, oString (vr a55) (vi 0)) :: (a55, false, ar "" .byte [(vi 115), (vi 105), (vi 110), (vi 103), (vi 108), (vi 101), (vi 116), (vi 111), (vi 110)]) :: (a52, false, oString (vr a53) (vi 0)) :: (a53, false, ar "" .byte [(vi 115), (vi 105), (vi 110), (vi 103), (vi 108), (vi 101), (vi 116), (vi 111), (vi 110)]) :: (a14, false, oString (vr a15) (vi 0)) :: (a15, false, ar "" .byte [(vi 115), (vi 105), (vi 110), (vi 103), (vi 108), (vi 101), (vi 116), (vi 111), (vi 110)]) :: (a13, true, oLinkedHashMap (.float 1061158912) (vi 0) (vi 0)) :: (a12, true, oLinkedHashMap (.float 1061158912) (vi 0) (vi 0)) :: (a11, true, oArrayList (vi 0) (vr (g2 Z))) :: (a1, true, ar "[C" .char [(vi (z2 &&& (255 : Int32))), (vi ((XT.ushr z2 (8 : Int32)) &&& (255 : Int32)))]) :: (a3, true, oString (vr a4) (vi 0)) :: (a4, true, ar "[B" .byte [(vi (z2 &&& (255 : Int32)).toInt8.toInt32), (vi ((XT.ushr z2 (8 : Int32)) &&& (255 : Int32)).toInt8.toInt32)]) :: []) rfl rfl ?_
      refine W.callV (pc := 156) (as := [(vr a64)]) 0 [] at_156 (w135 hw) (w136 hw) (w138 hw) (w138 hw) (w137 hw) (w32 hw) (w139 hw) (Hp.exa m0) (c45_setScope hw hs (p1 := a10) (p2 := a64) (p3 := a11) (p4 := a12) (p5 := a13) (p6 := a3) (p7 := a52) (p8 := a65) (p9 := a4) (p10 := a53) (x1 := (z2 &&& (255 : Int32)).toInt8.toInt32) (hx1 := (by have := rng32 z2; have := q255; have := am_255 z2; have := a_i2b (z2 &&& (255 : Int32)); have := rng32 z0; have := q2147483647; have := am_2147483647 z0; have := q3; have := arem_3 (z0 &&& (2147483647 : Int32)); have := q1; have := rng32 z1; have := am_2147483647 z1; have := arem_3 (z1 &&& (2147483647 : Int32)); omega)) (x2 := ((XT.ushr z2 (8 : Int32)) &&& (255 : Int32)).toInt8.toInt32) (hx2 := (by have := rng32 z2; have := q8; have := aushr_8 z2; have := q255; have := am_255 (XT.ushr z2 (8 : Int32)); have := a_i2b ((XT.ushr z2 (8 : Int32)) &&& (255 : Int32)); have := rng32 z0; have := q2147483647; have := am_2147483647 z0; have := q3; have := arem_3 (z0 &&& (2147483647 : Int32)); have := q1; have := rng32 z1; have := am_2147483647 z1; have := arem_3 (z1 &&& (2147483647 : Int32)); omega)) (u1 := u7) (hu1 := hu7) (mp2 := m0) (mp8 := m1)) (by decide) pd_Ljava_lang_String__V rfl rfl rfl rfl (by decide) (fun v D' h => ?_)
      obtain ⟨rfl, rfl⟩ := h
      show W _ _ _ _ _ _ _ _ _ _ _ _ 159 _ []
      refine W.ldcT (pc := 159) 36 (vs := [(vi 115), (vi 105), (vi 110), (vi 103), (vi 108), (vi 101), (vi 116), (vi 111), (vi 110)]) rfl at_159 (w114 hw) (wS hw) m4 tx_73696e676c65746f6e (by decide) (by decide) (by decide) (fun a66 a67 => ?_)
      show W _ _ _ _ _ _ _ _ _ _ _ _ 161 _ [(vr a66)]
      refine W.astore (pc := 161) (ls' := #[iv z0, iv z1, iv z2, iv z3, rv a1, rv a3, .val u7, rv a10, iv ((z0 &&& (2147483647 : Int32)) % (3 : Int32)), iv ((z1 &&& (2147483647 : Int32)) % (3 : Int32)), rv a66, uu, uu, uu]) at_161 rfl rfl ?_
      refine W.goto (pc := 163) 183 at_163 (by decide) ?_
      refine W.aload (pc := 183) 7 at_183 rfl rfl ?_
      refine W.callV (pc := 185) (as := []) 0 [] at_185 (w115 hw) (w116 hw) (w118 hw) (w118 hw) (w117 hw) (w32 hw) (w119 hw) (Hp.exa m2) (c38_getScope hw hs (p1 := a10) (p2 := a11) (p3 := a12) (p4 := a13) (p5 := a3) (p6 := a64) (p7 := a4) (p8 := a65) (x1 := (z2 &&& (255 : Int32)).toInt8.toInt32) (hx1 := (by have := rng32 z2; have := q255; have := am_255 z2; have := a_i2b (z2 &&& (255 : Int32)); have := rng32 z0; have := q2147483647; have := am_2147483647 z0; have := q3; have := arem_3 (z0 &&& (2147483647 : Int32)); have := q1; have := rng32 z1; have := am_2147483647 z1; have := arem_3 (z1 &&& (2147483647 : Int32)); omega)) (x2 := ((XT.ushr z2 (8 : Int32)) &&& (255 : Int32)).toInt8.toInt32) (hx2 := (by have := rng32 z2; have := q8; have := aushr_8 z2; have := q255; have := am_255 (XT.ushr z2 (8 : Int32)); have := a_i2b ((XT.ushr z2 (8 : Int32)) &&& (255 : Int32)); have := rng32 z0; have := q2147483647; have := am_2147483647 z0; have := q3; have := arem_3 (z0 &&& (2147483647 : Int32)); have := q1; have := rng32 z1; have := am_2147483647 z1; have := arem_3 (z1 &&& (2147483647 : Int32)); omega)) (u1 := u7) (hu1 := hu7) (mp1 := m2)) (by decide) pd__Ljava_lang_String_ rfl rfl rfl rfl (by decide) (fun v D' h => ?_)
      obtain ⟨rfl, rfl⟩ := h
      show W _ _ _ _ _ _ _ _ _ _ _ _ 188 _ [(vr a64)]
      refine W.astore (pc := 188) (ls' := #[iv z0, iv z1, iv z2, iv z3, rv a1, rv a3, .val u7, rv a10, iv ((z0 &&& (2147483647 : Int32)) % (3 : Int32)), iv ((z1 &&& (2147483647 : Int32)) % (3 : Int32)), rv a66, rv a64, uu, uu]) at_188 rfl rfl ?_
      refine W.aload (pc := 190) 7 at_190 rfl rfl ?_
      refine W.callV (pc := 192) (as := []) 0 [] at_192 (w115 hw) (w116 hw) (w118 hw) (w118 hw) (w117 hw) (w32 hw) (w119 hw) (Hp.exa m2) (c38_getScope hw hs (p1 := a10) (p2 := a11) (p3 := a12) (p4 := a13) (p5 := a3) (p6 := a64) (p7 := a4) (p8 := a65) (x1 := (z2 &&& (255 : Int32)).toInt8.toInt32) (hx1 := (by have := rng32 z2; have := q255; have := am_255 z2; have := a_i2b (z2 &&& (255 : Int32)); have := rng32 z0; have := q2147483647; have := am_2147483647 z0; have := q3; have := arem_3 (z0 &&& (2147483647 : Int32)); have := q1; have := rng32 z1; have := am_2147483647 z1; have := arem_3 (z1 &&& (2147483647 : Int32)); omega)) (x2 := ((XT.ushr z2 (8 : Int32)) &&& (255 : Int32)).toInt8.toInt32) (hx2 := (by have := rng32 z2; have := q8; have := aushr_8 z2; have := q255; have := am_255 (XT.ushr z2 (8 : Int32)); have := a_i2b ((XT.ushr z2 (8 : Int32)) &&& (255 : Int32)); have := rng32 z0; have := q2147483647; have := am_2147483647 z0; have := q3; have := arem_3 (z0 &&& (2147483647 : Int32)); have := q1; have := rng32 z1; have := am_2147483647 z1; have := arem_3 (z1 &&& (2147483647 : Int32)); omega)) (u1 := u7) (hu1 := hu7) (mp1 := m2)) (by decide) pd__Ljava_lang_String_ rfl rfl rfl rfl (by decide) (fun v D' h => ?_)
      obtain ⟨rfl, rfl⟩ := h
      show W _ _ _ _ _ _ _ _ _ _ _ _ 195 _ [(vr a64)]
      refine W.astore (pc := 195) (ls' := #[iv z0, iv z1, iv z2, iv z3, rv a1, rv a3, .val u7, rv a10, iv ((z0 &&& (2147483647 : Int32)) % (3 : Int32)), iv ((z1 &&& (2147483647 : Int32)) % (3 : Int32)), rv a66, rv a64, rv a64, uu]) at_195 rfl rfl ?_
      refine W.aload (pc := 197) 11 at_197 rfl rfl ?_
      refine W.ifnullN (pc := 199) at_199 ?_
      refine W.aload (pc := 202) 12 at_202 rfl rfl ?_
      refine W.ifnonnullY (pc := 204) 209 at_204 (by decide) ?_
      refine W.aload (pc := 209) 10 at_209 rfl rfl ?_
      refine W.ldcT (pc := 211) 36 (vs := [(vi 115), (vi 105), (vi 110), (vi 103), (vi 108), (vi 101), (vi 116), (vi 111), (vi 110)]) rfl at_211 (w114 hw) (wS hw) m4 tx_73696e676c65746f6e (by decide) (by decide) (by decide) (fun a68 a69 => ?_)
      show W _ _ _ _ _ _ _ _ _ _ _ _ 213 _ [(vr a68), (vr a66)]
      refine W.callV (pc := 213) (as := [(vr a68)]) 0 [] at_213 (w123 hw) (w124 hw) (w126 hw) (w126 hw) (w125 hw) (w3 hw) (w127 hw) (Hp.exa m2) (c22_equals hw hs (p1 := a66) (p2 := a68) (p3 := a67) (p4 := a69) (mp2 := m0) (mp1 := m2) (mp3 := m3) (mp4 := m1)) (by decide) pd_Ljava_lang_Object__Z rfl rfl rfl rfl (by decide) (fun v D' h => ?_)
      obtain ⟨rfl, rfl⟩ := h
      show W _ _ _ _ _ _ _ _ _ _ _ _ 216 _ [(vi 1)]
      refine W.istore (pc := 216) (ls' := #[iv z0, iv z1, iv z2, iv z3, rv a1, rv a3, .val u7, rv a10, iv ((z0 &&& (2147483647 : Int32)) % (3 : Int32)), iv ((z1 &&& (2147483647 : Int32)) % (3 : Int32)), rv a66, rv a64, rv a64, iv 1]) at_216 rfl ?_
      refine W.aload (pc := 218) 11 at_218 rfl rfl ?_
      refine W.aload (pc := 220) 10 at_220 rfl rfl ?_
      refine W.callV (pc := 222) (as := [(vr a66)]) 0 [] at_222 (w123 hw) (w124 hw) (w126 hw) (w126 hw) (w125 hw) (w3 hw) (w127 hw) (Hp.exa m5) (c22_equals hw hs (p1 := a64) (p2 := a66) (p3 := a65) (p4 := a67) (mp2 := m2) (mp1 := m5) (mp3 := m6) (mp4 := m3)) (by decide) pd_Ljava_lang_Object__Z rfl rfl rfl rfl (by decide) (fun v D' h => ?_)
      obtain ⟨rfl, rfl⟩ := h
      show W _ _ _ _ _ _ _ _ _ _ _ _ 225 _ [(vi 1)]
      refine W.ifN (pc := 225) at_225 (n_eq (by decide)) ?_
      refine W.aload (pc := 228) 12 at_228 rfl rfl ?_
      refine W.aload (pc := 230) 11 at_230 rfl rfl ?_
      refine W.callV (pc := 232) (as := [(vr a64)]) 0 [] at_232 (w123 hw) (w124 hw) (w126 hw) (w126 hw) (w125 hw) (w3 hw) (w127 hw) (Hp.exa m5) (c39_equals hw hs (p1 := a64) (p2 := a65)) (by decide) pd_Ljava_lang_Object__Z rfl rfl rfl rfl (by decide) (fun v D' h => ?_)
      obtain ⟨rfl, rfl⟩ := h
      show W _ _ _ _ _ _ _ _ _ _ _ _ 235 _ [(vi 1)]
      refine W.ifN (pc := 235) at_235 (n_eq (by decide)) ?_
      refine W.aload (pc := 238) 7 at_238 rfl rfl ?_
      refine W.callV (pc := 240) (as := []) 0 [] at_240 (w128 hw) (w129 hw) (w131 hw) (w131 hw) (w130 hw) (w32 hw) (w132 hw) (Hp.exa m4) (c40_isSingleton hw hs (p1 := a10) (p2 := a11) (p3 := a12) (p4 := a13) (p5 := a3) (p6 := a64) (p7 := a4) (p8 := a65) (x1 := (z2 &&& (255 : Int32)).toInt8.toInt32) (hx1 := (by have := rng32 z2; have := q255; have := am_255 z2; have := a_i2b (z2 &&& (255 : Int32)); have := rng32 z0; have := q2147483647; have := am_2147483647 z0; have := q3; have := arem_3 (z0 &&& (2147483647 : Int32)); have := q1; have := rng32 z1; have := am_2147483647 z1; have := arem_3 (z1 &&& (2147483647 : Int32)); omega)) (x2 := ((XT.ushr z2 (8 : Int32)) &&& (255 : Int32)).toInt8.toInt32) (hx2 := (by have := rng32 z2; have := q8; have := aushr_8 z2; have := q255; have := am_255 (XT.ushr z2 (8 : Int32)); have := a_i2b ((XT.ushr z2 (8 : Int32)) &&& (255 : Int32)); have := rng32 z0; have := q2147483647; have := am_2147483647 z0; have := q3; have := arem_3 (z0 &&& (2147483647 : Int32)); have := q1; have := rng32 z1; have := am_2147483647 z1; have := arem_3 (z1 &&& (2147483647 : Int32)); omega)) (u1 := u7) (hu1 := hu7) (mp1 := m4) (mp6 := m5) (mp8 := m6)) (by decide) pd__Z rfl rfl rfl rfl (by decide) (fun v D' h => ?_)
      obtain ⟨rfl, rfl⟩ := h
      show W _ _ _ _ _ _ _ _ _ _ _ _ 243 _ [(vi 1)]
      refine W.iload (pc := 243) at_243 rfl ?_
      refine W.icmpN (pc := 245) at_245 (n_ne (by decide)) ?_
      refine W.iconst (pc := 248) (1) at_248 (by decide) ?_
      refine W.goto (pc := 249) 253 at_249 (by decide) ?_
      exact W.ireturn (pc := 253) at_253 rfl (Or.inr (Or.inl rfl)) (nw_bool (by decide)) (by decide) rfl
   refine W.iloadN (pc := 42) at_42 rfl ?_
   refine W.iconst (pc := 43) (1) at_43 (by decide) ?_
   refine W.iand (pc := 44) at_44 ?_
   refine W.if (pc := 45) 76 at_45 (by decide) (fun h9 => ?_) (fun h9 => ?_)
   ·
    have ih9 := t_eq h9
    exact W.mono (by decide) (by decide) (K9 .null (uu) rfl (Or.inl rfl))
   ·
    have ih9 := f_eq h9
    refine W.iconst (pc := 48) (1) at_48 (by decide) ?_
    refine W.newarr (pc := 49) 1 (ad := "[C") (ty := .char) at_49 rfl (w0 hw) ix1 rfl (by decide) (by decide) (fun a70 => ?_)
    show W _ _ _ _ _ _ _ _ _ _ _ _ 51 _ [(vr a70)]
    refine W.astore (pc := 51) (ls' := #[iv z0, iv z1, iv z2, iv z3, rv a1, rv a3, .val .null, rv a70, uu, uu, uu, uu, uu, uu]) at_51 rfl rfl ?_
    refine W.aload (pc := 53) 7 at_53 rfl rfl ?_
    refine W.iconst (pc := 55) (0) at_55 (by decide) ?_
    refine W.iloadN (pc := 56) at_56 rfl ?_
    refine W.iconst (pc := 57) (1) at_57 (by decide) ?_
    refine W.iushr (pc := 58) at_58 ?_
    refine W.sipush (pc := 59) (255) at_59 (by decide) ?_
    refine W.iand (pc := 62) at_62 ?_
    refine W.i2cK (pc := 63) ((XT.ushr z3 (1 : Int32)) &&& (255 : Int32)) at_63 (z_i2c (by have := rng32 z3; have := q1; have := aushr_1 z3; have := q255; have := am_255 (XT.ushr z3 (1 : Int32)); have := am_1 z3; have := q0; omega)) ?_
    refine W.castore (pc := 64) (D' := (a70, true, ar "[C" .char [(vi ((XT.ushr z3 (1 : Int32)) &&& (255 : Int32)))]) :: (a1, true, ar "[C" .char [(vi (z2 &&& (255 : Int32))), (vi ((XT.ushr z2 (8 : Int32)) &&& (255 : Int32)))]) :: (a3, true, oString (vr a4) (vi 0)) :: (a4, true, ar "[B" .byte [(vi (z2 &&& (255 : Int32)).toInt8.toInt32), (vi ((XT.ushr z2 (8 : Int32)) &&& (255 : Int32)).toInt8.toInt32)]) :: []) 0 0 at_64 rfl ix0 (Nat.le_of_ble_eq_true rfl) (z_narC (by have := rng32 z3; have := q1; have := aushr_1 z3; have := q255; have := am_255 (XT.ushr z3 (1 : Int32)); have := am_1 z3; have := q0; omega)) rfl ?_
    refine W.new (pc := 65) at_65 (w1 hw) (w2 hw) (w3 hw) (laString hw) (by decide) (by decide) (fun a71 => ?_)
    show W _ _ _ _ _ _ _ _ _ _ _ _ 68 _ [(vr a71)]
    refine W.dup (pc := 68) at_68 rfl ?_
    refine W.aload (pc := 69) 7 at_69 rfl rfl ?_
    refine W.callI (pc := 71) (as := [(vr a70)]) 1 [(vr a71)] at_71 rfl (w4 hw) (w5 hw) (w3 hw) (w6 hw) (c6_init hw hs (p1 := a71) (p2 := a70) (x1 := ((XT.ushr z3 (1 : Int32)) &&& (255 : Int32))) (hx1 := (by have := rng32 z3; have := q1; have := aushr_1 z3; have := q255; have := am_255 (XT.ushr z3 (1 : Int32)); have := am_1 z3; have := q0; omega)) (mp2 := m0)) (by decide) pd__C_V rfl rfl rfl rfl (by decide) (fun v D' h => ?_)
    obtain ⟨a72, rfl, rfl⟩ := h
    show W _ _ _ _ _ _ _ _ _ _ _ _ 74 _ [(vr a71)]
    refine W.astore (pc := 74) (ls' := #[iv z0, iv z1, iv z2, iv z3, rv a1, rv a3, rv a71, rv a70, uu, uu, uu, uu, uu, uu]) at_74 rfl rfl ?_
    refine W.front 5 (D' := (a4, true, ar "[B" .byte [(vi (z2 &&& (255 : Int32)).toInt8.toInt32), (vi ((XT.ushr z2 (8 : Int32)) &&& (255 : Int32)).toInt8.toInt32)]) :: (a72, true, ar "[B" .byte [(vi ((XT.ushr z3 (1 : Int32)) &&& (255 : Int32)).toInt8.toInt32)]) :: (a71, true, oString (vr a72) (vi 0)) :: (a70, true, ar "[C" .char [(vi ((XT.ushr z3 (1 : Int32)) &&& (255 : Int32)))]) :: (a1, true, ar "[C" .char [(vi (z2 &&& (255 : Int32))), (vi ((XT.ushr z2 (8 : Int32)) &&& (255 : Int32)))]) :: (a3, true, oString (vr a4) (vi 0)) :: []) rfl rfl ?_
    refine W.front 5 (D' := (a3, true, oString (vr a4) (vi 0)) :: (a4, true, ar "[B" .byte [(vi (z2 &&& (255 : Int32)).toInt8.toInt32), (vi ((XT.ushr z2 (8 : Int32)) &&& (255 : Int32)).toInt8.toInt32)]) :: (a72, true, ar "[B" .byte [(vi ((XT.ushr z3 (1 : Int32)) &&& (255 : Int32)).toInt8.toInt32)]) :: (a71, true, oString (vr a72) (vi 0)) :: (a70, true, ar "[C" .char [(vi ((XT.ushr z3 (1 : Int32)) &&& (255 : Int32)))]) :: (a1, true, ar "[C" .char [(vi (z2 &&& (255 : Int32))), (vi ((XT.ushr z2 (8 : Int32)) &&& (255 : Int32)))]) :: []) rfl rfl ?_
    refine W.front 5 (D' := (a1, true, ar "[C" .char [(vi (z2 &&& (255 : Int32))), (vi ((XT.ushr z2 (8 : Int32)) &&& (255 : Int32)))]) :: (a3, true, oString (vr a4) (vi 0)) :: (a4, true, ar "[B" .byte [(vi (z2 &&& (255 : Int32)).toInt8.toInt32), (vi ((XT.ushr z2 (8 : Int32)) &&& (255 : Int32)).toInt8.toInt32)]) :: (a72, true, ar "[B" .byte [(vi ((XT.ushr z3 (1 : Int32)) &&& (255 : Int32)).toInt8.toInt32)]) :: (a71, true, oString (vr a72) (vi 0)) :: (a70, true, ar "[C" .char [(vi ((XT.ushr z3 (1 : Int32)) &&& (255 : Int32)))]) :: []) rfl rfl ?_
    refine W.heap (fun _ _ H => H.sub (((((((List.Sublist.refl _).cons _).cons _).cons _).cons_cons _).cons_cons _).cons_cons _)) ?_
    exact W.mono (by decide) (by decide) (K9 (vr a71) (rv a70) rfl (Or.inr ⟨_, rfl, rfl⟩))
  refine W.new (pc := 28) at_28 (w1 hw) (w2 hw) (w3 hw) (laString hw) (by decide) (by decide) (fun a73 => ?_)
  show W _ _ _ _ _ _ _ _ _ _ _ _ 31 _ [(vr a73)]
  refine W.dup (pc := 31) at_31 rfl ?_
  refine W.aload (pc := 32) 4 at_32 rfl rfl ?_
  refine W.callI (pc := 34) (as := [(vr a1)]) 1 [(vr a73)] at_34 rfl (w4 hw) (w5 hw) (w3 hw) (w6 hw) (c1_init hw hs (p1 := a73) (p2 := a1) (x1 := (z2 &&& (255 : Int32))) (hx1 := (by have := rng32 z2; have := q255; have := am_255 z2; omega)) (x2 := ((XT.ushr z2 (8 : Int32)) &&& (255 : Int32))) (hx2 := (by have := rng32 z2; have := q8; have := aushr_8 z2; have := q255; have := am_255 (XT.ushr z2 (8 : Int32)); omega)) (mp2 := m0)) (by decide) pd__C_V rfl rfl rfl rfl (by decide) (fun v D' h => ?_)
  obtain ⟨a74, rfl, rfl⟩ := h
  show W _ _ _ _ _ _ _ _ _ _ _ _ 37 _ [(vr a73)]
  refine W.astore (pc := 37) (ls' := #[iv z0, iv z1, iv z2, iv z3, rv a1, rv a73, uu, uu, uu, uu, uu, uu, uu, uu]) at_37 rfl rfl ?_
  refine W.aconstNull (pc := 39) at_39 ?_
  refine W.astore (pc := 40) (ls' := #[iv z0, iv z1, iv z2, iv z3, rv a1, rv a73, .val .null, uu, uu, uu, uu, uu, uu, uu]) at_40 rfl rfl ?_
  refine W.front 1 (D' := (a73, true, oString (vr a74) (vi 0)) :: (a74, true, ar "[B" .byte [(vi (z2 &&& (255 : Int32)).toInt8.toInt32), (vi ((XT.ushr z2 (8 : Int32)) &&& (255 : Int32)).toInt8.toInt32)]) :: (a1, true, ar "[C" .char [(vi (z2 &&& (255 : Int32))), (vi ((XT.ushr z2 (8 : Int32)) &&& (255 : Int32)))]) :: []) rfl rfl ?_
  refine W.front 2 (D' := (a1, true, ar "[C" .char [(vi (z2 &&& (255 : Int32))), (vi ((XT.ushr z2 (8 : Int32)) &&& (255 : Int32)))]) :: (a73, true, oString (vr a74) (vi 0)) :: (a74, true, ar "[B" .byte [(vi (z2 &&& (255 : Int32)).toInt8.toInt32), (vi ((XT.ushr z2 (8 : Int32)) &&& (255 : Int32)).toInt8.toInt32)]) :: []) rfl rfl ?_
  exact W.mono (by decide) (by decide) (K5 a73 a74 )
set_option maxRecDepth 65536 in
set_option maxHeartbeats 4000000 in
theorem comes_1 {Post : Tables → Env → Array Value → State → Outcome → State → Prop} (hpost : ∀ tb e args s v u, (limb_1_1.after args s (.returned v) u = true ∧ limb_1_2.after args s (.returned v) u = true ∧ True) → Jvm.D.FramedW s (.returned v) u (Jvm.fieldLocs frame_1_writes args s ++ Jvm.arrayLocs frame_1_arrays args s ++ Jvm.staticLocs frame_1_statics s) 40 6400 → Post tb e args s (.returned v) u) :
    ArmFor flags0 classFile x code maxLocals ret World_1 tables_1 room_1 Calls_1 rest_1 Pre_1 Post := by
  intro l hfl _ _ p e ha hc hk s m args below hf hA hF happ hP
  obtain ⟨hcalls, hrest, hpre⟩ := hP
  obtain ⟨-, -, -, hnamed, -, -, -, hat⟩ := (Spec.applies_iff hf).mp happ
  obtain ⟨hg, hn⟩ := and_e (Cond.before_iff.mp (show (Jvm.Cond.and given_1 narrow_1).before args s = true from hpre))
  obtain ⟨hcount, g0⟩ := and_e hg
  obtain ⟨w0, w1, w2, w3, rfl⟩ : ∃ w0 w1 w2 w3 : Value, args = #[w0, w1, w2, w3] := by
    have hs : args.size = 4 := by simpa [Cond.value, given_1] using hcount
    obtain ⟨L⟩ := args
    match L, hs with
    | [w0, w1, w2, w3], _ => exact ⟨w0, w1, w2, w3, rfl⟩
  have hw := fun d (hd : d ∈ tables_1) => atoms_spec (ws := Jvm.Cond.code x code maxLocals ret :: tables_1) hat d (List.mem_cons_of_mem _ hd)
  have hsets := (atoms_of jdkStatics_1 (show (jdkStatics_1.foldr Jvm.Cond.and restOwn_1).before _ s = true from by rw [← rest_1_c_eq]; exact hrest)).1
  obtain ⟨k0, g1⟩ := and_e g0
  obtain ⟨k1, g2⟩ := and_e g1
  obtain ⟨k2, g3⟩ := and_e g2
  have k3 := g3
  obtain ⟨z0, y0⟩ := is_v k0
  obtain rfl : w0 = (.int z0) := Option.some.inj y0
  obtain ⟨z1, y1⟩ := is_v k1
  obtain rfl : w1 = (.int z1) := Option.some.inj y1
  obtain ⟨z2, y2⟩ := is_v k2
  obtain rfl : w2 = (.int z2) := Option.some.inj y2
  obtain ⟨z3, y3⟩ := is_v k3
  obtain rfl : w3 = (.int z3) := Option.some.inj y3
  have n0 := hn
  have hSF : SF s := ⟨sf_int (hsets _ (List.mem_of_getElem? (i := 0) rfl)) (hsets _ (List.mem_of_getElem? (i := 1) rfl)), sf_nz (hsets _ (List.mem_of_getElem? (i := 1) rfl)) (hsets _ (List.mem_of_getElem? (i := 2) rfl)), t_sta (Or.inl (hsets _ (List.mem_of_getElem? (i := 10) rfl))) (exa_v (Cond.before_iff.mp (hsets _ (List.mem_of_getElem? (i := 11) rfl)))), t_sta (Or.inr ⟨(w47 hw), (hsets _ (List.mem_of_getElem? (i := 18) rfl))⟩) (exa_v (Cond.before_iff.mp (hsets _ (List.mem_of_getElem? (i := 23) rfl)))), trivial⟩
  have hE : EW s _ EL.2 := (EW.cons (w103 hw) (by decide) (EW.cons (w122 hw) (by decide) (EW.cons (w140 hw) (by decide) (EW.cons (w147 hw) (by decide) (EW.cons (w114 hw) (by decide) (EW.cons (w141 hw) (by decide) EW.nil))))))
  have hCH : CHv s EL.2 s.vm s.heap := CHv.start hE (fun q hq => hcalls.1 q hq) (hsets _ (List.mem_of_getElem? (i := 2) rfl)) (w19 hw) (w2 hw)
  have hHp := Hp.start hCH
  obtain ⟨nn, o, q1, q2, q3, v, L, rfl, N, ⟨D', -, rfl⟩, hq, hWH⟩ := lawW (Z := s) hw hSF z0 z1 z2 z3 ⟨⟨_, hE⟩, by decide⟩ l tables_1 p e ha hc hk s m _ below hf ((Spec.applies_iff_loose hf).mp happ).1 ⟨rfl, State.Warmed39.refl s, hHp⟩ trivial
  exact ⟨nn, _, q1, q2, q3, hpost _ _ _ _ _ _ ⟨Cond.after_iff.mpr rfl, Cond.after_iff.mpr (eq_i res_at (Term.int_eval (1)) rfl), trivial⟩ ⟨hq.1, hq.2.1, hq.2.2.1, (hq.2.2.2.sift fun y hy => Or.inr (N y hy)).mono (by decide) (by decide)⟩⟩
theorem main_1_1 : Claimed_1_1 := comes_1 fun _ _ _ _ _ _ h hF => ⟨h.1, hF⟩
theorem main_1_2 : Claimed_1_2 := comes_1 fun _ _ _ _ _ _ h hF => ⟨h.2.1, hF⟩
end Jvm.Pilot.@@N@@
namespace Jvm.Pilot.@@N@@
open Jvm Jvm.ClassFile Sem Op Lib Jvm.Free Jvm.Stand Jvm.Pilot.@@N@@.Jvm.D
/-! MADE BY PROGRAM (witnessworld.py) out of the Statement's table words and the real class files: 39 classes; the members and pool entries that the words name. The judged class is class 1, her method 1. -/
namespace start1
open Jvm.ClassFile
def u (s : String) : CpInfo := .utf8 (stringToUtf16 s)
/-- a pool by its gaps: so many unusable entries, then the entry; so many at the end -/
def gap : Nat → List CpInfo → List CpInfo
  | 0, r => r
  | n + 1, r => .unusable :: gap n r
def poolList (es : List (Nat × CpInfo)) (last : Nat) : List CpInfo := es.foldr (fun e r => gap e.1 (e.2 :: r)) (gap last [])
def pool (es : List (Nat × CpInfo)) (last : Nat) : Array CpInfo := ⟨poolList es last⟩
def fileOf (pool : Array CpInfo) (this : Nat) (attrs : Array Attribute := #[]) (ms : Array MethodInfo := #[]) (fl : Nat := 33) (sup : Nat := 0) (ifs : Array Nat := #[]) (fds : Array FieldInfo := #[]) : ClassFile where
  minorVersion := 0
  majorVersion := 65
  constantPool := pool
  accessFlags := fl
  thisClass := this
  superClass := sup
  interfaces := ifs
  fields := fds
  methods := ms
  attributes := attrs
def plain (name : String) (sup : Option ClassId) : Class where
  name := name
  kind := .ordinary
  loader := none
  accessFlags := 33
  super := sup
  interfaces := #[]
  cf := none
  fields := #[]
  methods := #[]
  instanceTypes := #[]
  staticTypes := #[]
  resolved := #[]
  callSites := []
  init := .initialized
  statics := none
  mirror := none

def pool0 : Array CpInfo := pool [(5, u "<init>"), (0, u "()V"), (1, .class_ 10), (1, u "java/lang/Object")] 113

def k0c0 : Code := { maxStack := 0, maxLocals := 1, code := object_method_1_code, exceptionTable := #[], attributes := #[] }
def k0m0 : Method := { name := "<init>", desc := "()V", sig := { parameters := [], returnType := none }, accessFlags := 1, code := some k0c0 }
/-- java/lang/Object -/
def k0 : Class := { plain "java/lang/Object" none with
  accessFlags := 33
  interfaces := #[]
  cf := some (fileOf pool0 8 #[] #[{ accessFlags := 1, nameIndex := 5, descriptorIndex := 6, attributes := #[] }] 33 0 #[] #[])
  fields := #[]
  methods := #[k0m0]
  instanceTypes := #[]
  staticTypes := #[]
  resolved := Array.replicate 124 none
  statics := none }

def pool1 : Array CpInfo := pool [(2, .class_ 4), (1, u "java/lang/Object"), (0, u "<init>"), (0, u "()V"), (0, .class_ 8), (0, u "java/lang/String"), (0, .methodref 7 10), (0, .nameAndType 5 11), (0, u "([C)V"), (0, .class_ 13), (0, u "com/example/montaje/montaje/beans/BeanDefinition"), (0, .methodref 12 15), (0, .nameAndType 5 16), (0, u "(Ljava/lang/String;Ljava/lang/String;)V"), (0, .integer 2147483647), (0, .string 19), (0, u "singleton"), (0, .methodref 12 21), (0, .nameAndType 22 23), (0, u "setScope"), (0, u "(Ljava/lang/String;)V"), (0, .string 25), (0, u "prototype"), (0, .methodref 12 27), (0, .nameAndType 28 29), (0, u "getScope"), (0, u "()Ljava/lang/String;"), (0, .methodref 7 31), (0, .nameAndType 32 33), (0, u "equals"), (0, u "(Ljava/lang/Object;)Z"), (0, .methodref 12 35), (0, .nameAndType 36 37), (0, u "isSingleton"), (0, u "()Z"), (0, .class_ 39), (0, u "com/example/montaje/montaje/beans/BeanDefinitionGetScopePinLaw"), (2, u "law"), (0, u "(IIII)Z")] 5

def k1m0 : Method := { name := "<init>", desc := "()V", sig := { parameters := [], returnType := none }, accessFlags := 1, code := none }
def k1c1 : Code := { maxStack := 4, maxLocals := 14, code := code, exceptionTable := #[], attributes := #[] }
def k1m1 : Method := { name := "law", desc := "(IIII)Z", sig := { parameters := [.int, .int, .int, .int], returnType := some .boolean }, accessFlags := 9, code := some k1c1 }
/-- com/example/montaje/montaje/beans/BeanDefinitionGetScopePinLaw -/
def k1 : Class := { plain "com/example/montaje/montaje/beans/BeanDefinitionGetScopePinLaw" (some 0) with
  accessFlags := 49
  interfaces := #[]
  cf := some (fileOf pool1 38 #[] #[{ accessFlags := 1, nameIndex := 5, descriptorIndex := 6, attributes := #[] }, { accessFlags := 9, nameIndex := 42, descriptorIndex := 43, attributes := #[] }] 49 2 #[] #[])
  fields := #[]
  methods := #[k1m0, k1m1]
  instanceTypes := #[]
  staticTypes := #[]
  resolved := Array.replicate 49 none
  statics := none }

def pool2 : Array CpInfo := pool [(1, .class_ 2), (0, u "java/io/Serializable"), (0, .class_ 4), (0, u "java/lang/Object")] 2

/-- java/io/Serializable -/
def k2 : Class := { plain "java/io/Serializable" (some 0) with
  accessFlags := 1537
  interfaces := #[]
  cf := some (fileOf pool2 1 #[] #[] 1537 3 #[] #[])
  fields := #[]
  methods := #[]
  instanceTypes := #[]
  staticTypes := #[]
  resolved := Array.replicate 7 none
  statics := none }

def pool3 : Array CpInfo := pool [(1, .class_ 2), (0, u "java/lang/Comparable"), (0, .class_ 4), (0, u "java/lang/Object")] 7

/-- java/lang/Comparable -/
def k3 : Class := { plain "java/lang/Comparable" (some 0) with
  accessFlags := 1537
  interfaces := #[]
  cf := some (fileOf pool3 1 #[] #[] 1537 3 #[] #[])
  fields := #[]
  methods := #[]
  instanceTypes := #[]
  staticTypes := #[]
  resolved := Array.replicate 12 none
  statics := none }

def pool4 : Array CpInfo := pool [(2, .class_ 4), (1, u "java/lang/CharSequence"), (42, .class_ 48), (0, u "java/lang/CharSequence$1CodePointIterator"), (10, .class_ 60), (0, u "java/lang/CharSequence$1CharIterator"), (5, .class_ 67), (0, u "java/lang/Object")] 63

/-- java/lang/CharSequence -/
def k4 : Class := { plain "java/lang/CharSequence" (some 0) with
  accessFlags := 1537
  interfaces := #[]
  cf := some (fileOf pool4 2 #[.nestMembers #[47, 59]] #[] 1537 66 #[] #[])
  fields := #[]
  methods := #[]
  instanceTypes := #[]
  staticTypes := #[]
  resolved := Array.replicate 131 none
  statics := none }

def pool5 : Array CpInfo := pool [(1, .class_ 2), (0, u "java/lang/constant/Constable"), (0, .class_ 4), (0, u "java/lang/Object")] 6

/-- java/lang/constant/Constable -/
def k5 : Class := { plain "java/lang/constant/Constable" (some 0) with
  accessFlags := 1537
  interfaces := #[]
  cf := some (fileOf pool5 1 #[] #[] 1537 3 #[] #[])
  fields := #[]
  methods := #[]
  instanceTypes := #[]
  staticTypes := #[]
  resolved := Array.replicate 11 none
  statics := none }

def pool6 : Array CpInfo := pool [(1, .class_ 2), (0, u "java/lang/constant/ConstantDesc"), (0, .class_ 4), (0, u "java/lang/Object")] 32

/-- java/lang/constant/ConstantDesc -/
def k6 : Class := { plain "java/lang/constant/ConstantDesc" (some 0) with
  accessFlags := 1537
  interfaces := #[]
  cf := some (fileOf pool6 1 #[] #[] 1537 3 #[] #[])
  fields := #[]
  methods := #[]
  instanceTypes := #[]
  staticTypes := #[]
  resolved := Array.replicate 37 none
  statics := none }

def pool7 : Array CpInfo := pool [(1, .methodref 2 3), (0, .class_ 4), (0, .nameAndType 5 6), (0, u "java/lang/Object"), (0, u "<init>"), (0, u "()V"), (2, .fieldref 10 11), (0, .class_ 12), (0, .nameAndType 13 14), (0, u "java/lang/String"), (0, u "value"), (0, u "[B"), (0, .fieldref 10 16), (0, .nameAndType 17 18), (0, u "coder"), (0, u "B"), (2, u "hash"), (0, u "I"), (2, u "hashIsZero"), (0, u "Z"), (0, .methodref 10 28), (0, .nameAndType 5 29), (0, u "([CIILjava/lang/Void;)V"), (8, .fieldref 10 39), (0, .nameAndType 40 26), (0, u "COMPACT_STRINGS"), (1, .class_ 44), (1, u "java/lang/StringUTF16"), (0, u "compress"), (1, .methodref 42 48), (0, .nameAndType 49 50), (0, u "coderFromArrayLen"), (0, u "([BI)B"), (56, .class_ 109), (1, u "java/lang/StringLatin1"), (67, .methodref 42 178), (0, .nameAndType 45 179), (0, u "([CII)[B"), (361, .methodref 107 542), (0, .nameAndType 543 544), (0, u "equals"), (0, u "([B[B)Z"), (28, u "(Ljava/lang/Object;)Z"), (1, .class_ 576), (0, u "java/lang/CharSequence"), (22, u "CASE_INSENSITIVE_ORDER"), (0, u "Ljava/util/Comparator;"), (409, u "([C)V"), (90, u "serialPersistentFields"), (0, u "[Ljava/io/ObjectStreamField;"), (0, .class_ 1104), (0, u "java/lang/String$CaseInsensitiveComparator"), (1, .class_ 1107), (0, u "java/io/Serializable"), (0, .class_ 1109), (0, u "java/lang/Comparable"), (0, .class_ 1111), (0, u "java/lang/constant/Constable"), (0, .class_ 1113), (0, u "java/lang/constant/ConstantDesc"), (2, u "serialVersionUID"), (0, u "J"), (3, u "REPL"), (0, u "C"), (2, u "LATIN1"), (1, u "UTF16")] 323

def k7m0 : Method := { name := "<init>", desc := "()V", sig := { parameters := [], returnType := none }, accessFlags := 1, code := none }
def k7c1 : Code := { maxStack := 5, maxLocals := 2, code := jdk_42_method_3_code, exceptionTable := #[], attributes := #[] }
def k7m1 : Method := { name := "<init>", desc := "([C)V", sig := { parameters := [(.array .char)], returnType := none }, accessFlags := 1, code := some k7c1 }
def k7c2 : Code := { maxStack := 2, maxLocals := 3, code := jdk_42_method_66_code, exceptionTable := #[], attributes := #[] }
def k7m2 : Method := { name := "equals", desc := "(Ljava/lang/Object;)Z", sig := { parameters := [(.object "java/lang/Object")], returnType := some .boolean }, accessFlags := 1, code := some k7c2 }
def k7c3 : Code := { maxStack := 4, maxLocals := 6, code := jdk_42_method_149_code, exceptionTable := #[], attributes := #[] }
def k7m3 : Method := { name := "<init>", desc := "([CIILjava/lang/Void;)V", sig := { parameters := [(.array .char), .int, .int, (.object "java/lang/Void")], returnType := none }, accessFlags := 2, code := some k7c3 }
/-- java/lang/String -/
def k7 : Class := { plain "java/lang/String" (some 0) with
  accessFlags := 49
  interfaces := #[2, 3, 4, 5, 6]
  cf := some (fileOf pool7 10 #[.nestMembers #[1103]] #[{ accessFlags := 1, nameIndex := 5, descriptorIndex := 6, attributes := #[] }, { accessFlags := 1, nameIndex := 5, descriptorIndex := 1010, attributes := #[] }, { accessFlags := 1, nameIndex := 543, descriptorIndex := 573, attributes := #[] }, { accessFlags := 2, nameIndex := 5, descriptorIndex := 29, attributes := #[] }] 49 2 #[1106, 1108, 575, 1110, 1112] #[{ accessFlags := 18, nameIndex := 13, descriptorIndex := 14, attributes := #[] }, { accessFlags := 18, nameIndex := 17, descriptorIndex := 18, attributes := #[] }, { accessFlags := 2, nameIndex := 21, descriptorIndex := 22, attributes := #[] }, { accessFlags := 2, nameIndex := 25, descriptorIndex := 26, attributes := #[] }, { accessFlags := 26, nameIndex := 1116, descriptorIndex := 1117, attributes := #[] }, { accessFlags := 24, nameIndex := 40, descriptorIndex := 26, attributes := #[] }, { accessFlags := 26, nameIndex := 1101, descriptorIndex := 1102, attributes := #[] }, { accessFlags := 26, nameIndex := 1121, descriptorIndex := 1122, attributes := #[] }, { accessFlags := 25, nameIndex := 599, descriptorIndex := 600, attributes := #[] }, { accessFlags := 24, nameIndex := 1125, descriptorIndex := 18, attributes := #[] }, { accessFlags := 24, nameIndex := 1127, descriptorIndex := 18, attributes := #[] }])
  fields := #[{ name := "value", type := (.array .byte), accessFlags := 18, slot := 0, constantValue := 0 }, { name := "coder", type := .byte, accessFlags := 18, slot := 1, constantValue := 0 }, { name := "hash", type := .int, accessFlags := 2, slot := 2, constantValue := 0 }, { name := "hashIsZero", type := .boolean, accessFlags := 2, slot := 3, constantValue := 0 }, { name := "serialVersionUID", type := .long, accessFlags := 26, slot := 0, constantValue := 0 }, { name := "COMPACT_STRINGS", type := .boolean, accessFlags := 24, slot := 1, constantValue := 0 }, { name := "serialPersistentFields", type := (.array (.object "java/io/ObjectStreamField")), accessFlags := 26, slot := 2, constantValue := 0 }, { name := "REPL", type := .char, accessFlags := 26, slot := 3, constantValue := 0 }, { name := "CASE_INSENSITIVE_ORDER", type := (.object "java/util/Comparator"), accessFlags := 25, slot := 4, constantValue := 0 }, { name := "LATIN1", type := .byte, accessFlags := 24, slot := 5, constantValue := 0 }, { name := "UTF16", type := .byte, accessFlags := 24, slot := 6, constantValue := 0 }]
  methods := #[k7m0, k7m1, k7m2, k7m3]
  instanceTypes := #[(.array .byte), .byte, .int, .boolean]
  staticTypes := #[.long, .boolean, (.array (.object "java/io/ObjectStreamField")), .char, (.object "java/util/Comparator"), .byte, .byte]
  resolved := Array.replicate 1451 none
  statics := some 0 }

def pool8 : Array CpInfo := pool [(6, .class_ 8), (1, u "java/lang/Object"), (0, u "<init>"), (0, u "()V"), (1, .class_ 14), (1, u "java/lang/StringUTF16"), (31, u "$assertionsDisabled"), (0, u "Z"), (13, u "HI_BYTE_SHIFT"), (0, u "I"), (2, u "LO_BYTE_SHIFT"), (49, .methodref 12 116), (0, .nameAndType 117 118), (0, u "compress"), (0, u "([CI[BII)I"), (3, u "([CII)[B"), (138, u "coderFromArrayLen"), (0, u "([BI)B"), (106, .class_ 371), (1, u "java/lang/StringUTF16$LinesSpliterator"), (58, u "MAX_LENGTH"), (196, .class_ 628), (0, u "java/lang/StringUTF16$CodePointsSpliterator"), (0, .class_ 630), (0, u "java/lang/StringUTF16$CharsSpliterator")] 4

def k8m0 : Method := { name := "<init>", desc := "()V", sig := { parameters := [], returnType := none }, accessFlags := 0, code := none }
def k8c1 : Code := { maxStack := 2, maxLocals := 2, code := jdk_52_method_15_code, exceptionTable := #[], attributes := #[] }
def k8m1 : Method := { name := "coderFromArrayLen", desc := "([BI)B", sig := { parameters := [(.array .byte), .int], returnType := some .byte }, accessFlags := 8, code := some k8c1 }
def k8c2 : Code := { maxStack := 5, maxLocals := 6, code := jdk_52_method_16_code, exceptionTable := #[], attributes := #[] }
def k8m2 : Method := { name := "compress", desc := "([CII)[B", sig := { parameters := [(.array .char), .int, .int], returnType := some (.array .byte) }, accessFlags := 9, code := some k8c2 }
def k8c3 : Code := { maxStack := 3, maxLocals := 7, code := jdk_52_method_21_code, exceptionTable := #[], attributes := #[] }
def k8m3 : Method := { name := "compress", desc := "([CI[BII)I", sig := { parameters := [(.array .char), .int, (.array .byte), .int, .int], returnType := some .int }, accessFlags := 9, code := some k8c3 }
/-- java/lang/StringUTF16 -/
def k8 : Class := { plain "java/lang/StringUTF16" (some 0) with
  accessFlags := 48
  interfaces := #[]
  cf := some (fileOf pool8 12 #[.nestMembers #[627, 629, 369]] #[{ accessFlags := 0, nameIndex := 9, descriptorIndex := 10, attributes := #[] }, { accessFlags := 8, nameIndex := 261, descriptorIndex := 262, attributes := #[] }, { accessFlags := 9, nameIndex := 117, descriptorIndex := 122, attributes := #[] }, { accessFlags := 9, nameIndex := 117, descriptorIndex := 118, attributes := #[] }] 48 6 #[] #[{ accessFlags := 26, nameIndex := 61, descriptorIndex := 62, attributes := #[] }, { accessFlags := 26, nameIndex := 65, descriptorIndex := 62, attributes := #[] }, { accessFlags := 24, nameIndex := 430, descriptorIndex := 62, attributes := #[] }, { accessFlags := 4120, nameIndex := 46, descriptorIndex := 47, attributes := #[] }])
  fields := #[{ name := "HI_BYTE_SHIFT", type := .int, accessFlags := 26, slot := 0, constantValue := 0 }, { name := "LO_BYTE_SHIFT", type := .int, accessFlags := 26, slot := 1, constantValue := 0 }, { name := "MAX_LENGTH", type := .int, accessFlags := 24, slot := 2, constantValue := 0 }, { name := "$assertionsDisabled", type := .boolean, accessFlags := 4120, slot := 3, constantValue := 0 }]
  methods := #[k8m0, k8m1, k8m2, k8m3]
  instanceTypes := #[]
  staticTypes := #[.int, .int, .int, .boolean]
  resolved := Array.replicate 635 none
  statics := none }

def pool9 : Array CpInfo := pool [(1, .methodref 2 3), (0, .class_ 4), (0, .nameAndType 5 6), (0, u "java/lang/Object"), (0, u "<init>"), (0, u "()V"), (0, .interfaceMethodref 8 9), (0, .class_ 10), (0, .nameAndType 11 12), (0, u "java/util/List"), (0, u "of"), (0, u "()Ljava/util/List;"), (0, .fieldref 14 15), (0, .class_ 16), (0, .nameAndType 17 18), (0, u "com/example/montaje/montaje/beans/BeanDefinition"), (0, u "dependsOn"), (0, u "Ljava/util/List;"), (0, .class_ 20), (0, u "java/util/ArrayList"), (0, .methodref 19 3), (0, .fieldref 14 23), (0, .nameAndType 24 18), (0, u "constructorArguments"), (0, .class_ 26), (0, u "java/util/LinkedHashMap"), (0, .methodref 25 3), (0, .fieldref 14 29), (0, .nameAndType 30 31), (0, u "propertyValues"), (0, u "Ljava/util/Map;"), (0, .fieldref 14 33), (0, .nameAndType 34 31), (0, u "qualifiers"), (0, .fieldref 14 36), (0, .nameAndType 37 38), (0, u "beanClassName"), (0, u "Ljava/lang/String;"), (0, .string 40), (0, u "source"), (0, .methodref 42 43), (0, .class_ 44), (0, .nameAndType 45 46), (0, u "java/util/Objects"), (0, u "requireNonNull"), (0, u "(Ljava/lang/Object;Ljava/lang/String;)Ljava/lang/Object;"), (0, .class_ 48), (0, u "java/lang/String"), (0, .fieldref 14 50), (0, .nameAndType 40 38), (2, u "parentName"), (2, u "abstractDefinition"), (0, u "Z"), (0, .fieldref 14 59), (0, .nameAndType 60 38), (0, u "scope"), (0, .string 62), (0, u "singleton"), (0, .string 60), (0, .methodref 47 65), (0, .nameAndType 66 67), (0, u "equals"), (0, u "(Ljava/lang/Object;)Z"), (0, .string 69), (0, u "prototype"), (8, u "(Ljava/lang/String;)V"), (2, u "lazyInit"), (2, u "primary"), (17, u "()Ljava/lang/String;"), (6, u "factoryMethodName"), (2, u "factoryBeanName"), (2, u "initMethodName"), (2, u "defaultInitMethodName"), (2, u "destroyMethodName"), (2, u "defaultDestroyMethodName"), (0, .methodref 14 126), (0, .nameAndType 127 102), (0, u "getScope"), (29, u "()Z"), (87, u "(Ljava/lang/String;Ljava/lang/String;)V"), (113, u "SCOPE_SINGLETON"), (1, u "SCOPE_PROTOTYPE"), (15, u "setScope"), (25, u "isSingleton")] 41

def k9c0 : Code := { maxStack := 3, maxLocals := 3, code := prog_4_method_1_code, exceptionTable := #[], attributes := #[] }
def k9m0 : Method := { name := "<init>", desc := "(Ljava/lang/String;Ljava/lang/String;)V", sig := { parameters := [(.object "java/lang/String"), (.object "java/lang/String")], returnType := none }, accessFlags := 1, code := some k9c0 }
def k9c1 : Code := { maxStack := 1, maxLocals := 1, code := prog_4_method_8_code, exceptionTable := #[], attributes := #[] }
def k9m1 : Method := { name := "getScope", desc := "()Ljava/lang/String;", sig := { parameters := [], returnType := some (.object "java/lang/String") }, accessFlags := 1, code := some k9c1 }
def k9c2 : Code := { maxStack := 3, maxLocals := 2, code := prog_4_method_9_code, exceptionTable := #[], attributes := #[] }
def k9m2 : Method := { name := "setScope", desc := "(Ljava/lang/String;)V", sig := { parameters := [(.object "java/lang/String")], returnType := none }, accessFlags := 1, code := some k9c2 }
def k9c3 : Code := { maxStack := 2, maxLocals := 1, code := prog_4_method_30_code, exceptionTable := #[], attributes := #[] }
def k9m3 : Method := { name := "isSingleton", desc := "()Z", sig := { parameters := [], returnType := some .boolean }, accessFlags := 1, code := some k9c3 }
/-- com/example/montaje/montaje/beans/BeanDefinition -/
def k9 : Class := { plain "com/example/montaje/montaje/beans/BeanDefinition" (some 0) with
  accessFlags := 33
  interfaces := #[]
  cf := some (fileOf pool9 14 #[] #[{ accessFlags := 1, nameIndex := 5, descriptorIndex := 245, attributes := #[] }, { accessFlags := 1, nameIndex := 127, descriptorIndex := 102, attributes := #[] }, { accessFlags := 1, nameIndex := 377, descriptorIndex := 78, attributes := #[] }, { accessFlags := 1, nameIndex := 403, descriptorIndex := 157, attributes := #[] }] 33 2 #[] #[{ accessFlags := 25, nameIndex := 359, descriptorIndex := 38, attributes := #[] }, { accessFlags := 25, nameIndex := 361, descriptorIndex := 38, attributes := #[] }, { accessFlags := 18, nameIndex := 37, descriptorIndex := 38, attributes := #[] }, { accessFlags := 18, nameIndex := 40, descriptorIndex := 38, attributes := #[] }, { accessFlags := 2, nameIndex := 53, descriptorIndex := 38, attributes := #[] }, { accessFlags := 2, nameIndex := 56, descriptorIndex := 57, attributes := #[] }, { accessFlags := 2, nameIndex := 60, descriptorIndex := 38, attributes := #[] }, { accessFlags := 2, nameIndex := 81, descriptorIndex := 57, attributes := #[] }, { accessFlags := 2, nameIndex := 84, descriptorIndex := 57, attributes := #[] }, { accessFlags := 2, nameIndex := 17, descriptorIndex := 18, attributes := #[] }, { accessFlags := 2, nameIndex := 109, descriptorIndex := 38, attributes := #[] }, { accessFlags := 2, nameIndex := 112, descriptorIndex := 38, attributes := #[] }, { accessFlags := 2, nameIndex := 115, descriptorIndex := 38, attributes := #[] }, { accessFlags := 2, nameIndex := 118, descriptorIndex := 38, attributes := #[] }, { accessFlags := 2, nameIndex := 121, descriptorIndex := 38, attributes := #[] }, { accessFlags := 2, nameIndex := 124, descriptorIndex := 38, attributes := #[] }, { accessFlags := 18, nameIndex := 24, descriptorIndex := 18, attributes := #[] }, { accessFlags := 18, nameIndex := 30, descriptorIndex := 31, attributes := #[] }, { accessFlags := 18, nameIndex := 34, descriptorIndex := 31, attributes := #[] }])
  fields := #[{ name := "SCOPE_SINGLETON", type := (.object "java/lang/String"), accessFlags := 25, slot := 0, constantValue := 0 }, { name := "SCOPE_PROTOTYPE", type := (.object "java/lang/String"), accessFlags := 25, slot := 1, constantValue := 0 }, { name := "beanClassName", type := (.object "java/lang/String"), accessFlags := 18, slot := 0, constantValue := 0 }, { name := "source", type := (.object "java/lang/String"), accessFlags := 18, slot := 1, constantValue := 0 }, { name := "parentName", type := (.object "java/lang/String"), accessFlags := 2, slot := 2, constantValue := 0 }, { name := "abstractDefinition", type := .boolean, accessFlags := 2, slot := 3, constantValue := 0 }, { name := "scope", type := (.object "java/lang/String"), accessFlags := 2, slot := 4, constantValue := 0 }, { name := "lazyInit", type := .boolean, accessFlags := 2, slot := 5, constantValue := 0 }, { name := "primary", type := .boolean, accessFlags := 2, slot := 6, constantValue := 0 }, { name := "dependsOn", type := (.object "java/util/List"), accessFlags := 2, slot := 7, constantValue := 0 }, { name := "factoryMethodName", type := (.object "java/lang/String"), accessFlags := 2, slot := 8, constantValue := 0 }, { name := "factoryBeanName", type := (.object "java/lang/String"), accessFlags := 2, slot := 9, constantValue := 0 }, { name := "initMethodName", type := (.object "java/lang/String"), accessFlags := 2, slot := 10, constantValue := 0 }, { name := "defaultInitMethodName", type := (.object "java/lang/String"), accessFlags := 2, slot := 11, constantValue := 0 }, { name := "destroyMethodName", type := (.object "java/lang/String"), accessFlags := 2, slot := 12, constantValue := 0 }, { name := "defaultDestroyMethodName", type := (.object "java/lang/String"), accessFlags := 2, slot := 13, constantValue := 0 }, { name := "constructorArguments", type := (.object "java/util/List"), accessFlags := 18, slot := 14, constantValue := 0 }, { name := "propertyValues", type := (.object "java/util/Map"), accessFlags := 18, slot := 15, constantValue := 0 }, { name := "qualifiers", type := (.object "java/util/Map"), accessFlags := 18, slot := 16, constantValue := 0 }]
  methods := #[k9m0, k9m1, k9m2, k9m3]
  instanceTypes := #[(.object "java/lang/String"), (.object "java/lang/String"), (.object "java/lang/String"), .boolean, (.object "java/lang/String"), .boolean, .boolean, (.object "java/util/List"), (.object "java/lang/String"), (.object "java/lang/String"), (.object "java/lang/String"), (.object "java/lang/String"), (.object "java/lang/String"), (.object "java/lang/String"), (.object "java/util/List"), (.object "java/util/Map"), (.object "java/util/Map")]
  staticTypes := #[(.object "java/lang/String"), (.object "java/lang/String")]
  resolved := Array.replicate 445 none
  statics := none }

def pool10 : Array CpInfo := pool [(8, .class_ 10), (1, u "java/lang/Iterable"), (24, .class_ 36), (0, u "java/lang/Object")] 25

/-- java/lang/Iterable -/
def k10 : Class := { plain "java/lang/Iterable" (some 0) with
  accessFlags := 1537
  interfaces := #[]
  cf := some (fileOf pool10 8 #[] #[] 1537 35 #[] #[])
  fields := #[]
  methods := #[]
  instanceTypes := #[]
  staticTypes := #[]
  resolved := Array.replicate 62 none
  statics := none }

def pool11 : Array CpInfo := pool [(10, .class_ 12), (1, u "java/util/Collection"), (47, .class_ 61), (0, u "java/lang/Object"), (0, .class_ 63), (0, u "java/lang/Iterable")] 51

/-- java/util/Collection -/
def k11 : Class := { plain "java/util/Collection" (some 0) with
  accessFlags := 1537
  interfaces := #[10]
  cf := some (fileOf pool11 10 #[] #[] 1537 60 #[62] #[])
  fields := #[]
  methods := #[]
  instanceTypes := #[]
  staticTypes := #[]
  resolved := Array.replicate 115 none
  statics := none }

def pool12 : Array CpInfo := pool [(8, .class_ 10), (1, u "java/util/SequencedCollection"), (15, .class_ 27), (0, u "java/lang/Object"), (0, .class_ 29), (0, u "java/util/Collection")] 27

/-- java/util/SequencedCollection -/
def k12 : Class := { plain "java/util/SequencedCollection" (some 0) with
  accessFlags := 1537
  interfaces := #[11]
  cf := some (fileOf pool12 8 #[] #[] 1537 26 #[28] #[])
  fields := #[]
  methods := #[]
  instanceTypes := #[]
  staticTypes := #[]
  resolved := Array.replicate 57 none
  statics := none }

def pool13 : Array CpInfo := pool [(8, .class_ 10), (1, u "java/util/List"), (77, u "of"), (1, .fieldref 91 92), (0, .class_ 93), (0, .nameAndType 94 95), (0, u "java/util/ImmutableCollections"), (0, u "EMPTY_LIST"), (0, u "Ljava/util/ImmutableCollections$ListN;"), (7, .class_ 104), (0, u "java/lang/Object"), (14, u "()Ljava/util/List;"), (0, .class_ 121), (0, u "java/util/SequencedCollection")] 129

def k13c0 : Code := { maxStack := 1, maxLocals := 0, code := jdk_40_method_36_code, exceptionTable := #[], attributes := #[] }
def k13m0 : Method := { name := "of", desc := "()Ljava/util/List;", sig := { parameters := [], returnType := some (.object "java/util/List") }, accessFlags := 9, code := some k13c0 }
/-- java/util/List -/
def k13 : Class := { plain "java/util/List" (some 0) with
  accessFlags := 1537
  interfaces := #[12]
  cf := some (fileOf pool13 8 #[] #[{ accessFlags := 9, nameIndex := 88, descriptorIndex := 119, attributes := #[] }] 1537 103 #[120] #[])
  fields := #[]
  methods := #[k13m0]
  instanceTypes := #[]
  staticTypes := #[]
  resolved := Array.replicate 251 none
  statics := none }

def pool14 : Array CpInfo := pool [(2, .class_ 4), (1, u "java/lang/Object"), (0, u "<init>"), (0, u "()V"), (3, .class_ 11), (0, u "java/util/ImmutableCollections$List12"), (0, .class_ 13), (0, u "java/util/ImmutableCollections$ListN"), (3, u "Z"), (29, .class_ 49), (1, u "java/util/ImmutableCollections"), (0, u "$assertionsDisabled"), (5, u "[Ljava/lang/Object;"), (5, u "EMPTY_LIST"), (0, u "Ljava/util/ImmutableCollections$ListN;"), (8, u "EMPTY_LIST_NULLS"), (22, u "SALT32L"), (0, u "J"), (2, u "REVERSE"), (6, u "archivedObjects"), (2, u "EMPTY"), (0, u "Ljava/lang/Object;"), (0, .class_ 112), (0, u "java/util/ImmutableCollections$SetN"), (5, u "EMPTY_SET"), (0, u "Ljava/util/ImmutableCollections$SetN;"), (0, .class_ 121), (0, u "java/util/ImmutableCollections$MapN"), (3, u "EMPTY_MAP"), (0, u "Ljava/util/ImmutableCollections$MapN;"), (4, u "EXPAND_FACTOR"), (0, u "I"), (36, .class_ 170), (0, u "java/util/ImmutableCollections$MapN$MapNIterator"), (0, .class_ 172), (0, u "java/util/ImmutableCollections$MapN$1"), (0, .class_ 174), (0, u "java/util/ImmutableCollections$Map1"), (0, .class_ 176), (0, u "java/util/ImmutableCollections$AbstractImmutableMap"), (0, .class_ 178), (0, u "java/util/ImmutableCollections$SetN$SetNIterator"), (0, .class_ 180), (0, u "java/util/ImmutableCollections$Set12"), (0, .class_ 182), (0, u "java/util/ImmutableCollections$Set12$1"), (0, .class_ 184), (0, u "java/util/ImmutableCollections$AbstractImmutableSet"), (0, .class_ 186), (0, u "java/util/ImmutableCollections$SubList"), (0, .class_ 188), (0, u "java/util/ImmutableCollections$ListItr"), (0, .class_ 190), (0, u "java/util/ImmutableCollections$AbstractImmutableList"), (0, .class_ 192), (0, u "java/util/ImmutableCollections$AbstractImmutableCollection"), (0, .class_ 194), (0, u "java/util/ImmutableCollections$Access"), (0, .class_ 196), (0, u "java/util/ImmutableCollections$Access$1")] 16

def k14m0 : Method := { name := "<init>", desc := "()V", sig := { parameters := [], returnType := none }, accessFlags := 2, code := none }
/-- java/util/ImmutableCollections -/
def k14 : Class := { plain "java/util/ImmutableCollections" (some 0) with
  accessFlags := 32
  interfaces := #[]
  cf := some (fileOf pool14 47 #[.nestMembers #[120, 169, 171, 173, 175, 111, 177, 179, 181, 183, 12, 10, 185, 187, 189, 191, 193, 195]] #[{ accessFlags := 2, nameIndex := 5, descriptorIndex := 6, attributes := #[] }] 32 2 #[] #[{ accessFlags := 26, nameIndex := 95, descriptorIndex := 96, attributes := #[] }, { accessFlags := 26, nameIndex := 99, descriptorIndex := 17, attributes := #[] }, { accessFlags := 10, nameIndex := 106, descriptorIndex := 56, attributes := #[] }, { accessFlags := 26, nameIndex := 109, descriptorIndex := 110, attributes := #[] }, { accessFlags := 24, nameIndex := 62, descriptorIndex := 63, attributes := #[] }, { accessFlags := 24, nameIndex := 72, descriptorIndex := 63, attributes := #[] }, { accessFlags := 24, nameIndex := 118, descriptorIndex := 119, attributes := #[] }, { accessFlags := 24, nameIndex := 125, descriptorIndex := 126, attributes := #[] }, { accessFlags := 24, nameIndex := 131, descriptorIndex := 132, attributes := #[] }, { accessFlags := 4120, nameIndex := 50, descriptorIndex := 17, attributes := #[] }])
  fields := #[{ name := "SALT32L", type := .long, accessFlags := 26, slot := 0, constantValue := 0 }, { name := "REVERSE", type := .boolean, accessFlags := 26, slot := 1, constantValue := 0 }, { name := "archivedObjects", type := (.array (.object "java/lang/Object")), accessFlags := 10, slot := 2, constantValue := 0 }, { name := "EMPTY", type := (.object "java/lang/Object"), accessFlags := 26, slot := 3, constantValue := 0 }, { name := "EMPTY_LIST", type := (.object "java/util/ImmutableCollections$ListN"), accessFlags := 24, slot := 4, constantValue := 0 }, { name := "EMPTY_LIST_NULLS", type := (.object "java/util/ImmutableCollections$ListN"), accessFlags := 24, slot := 5, constantValue := 0 }, { name := "EMPTY_SET", type := (.object "java/util/ImmutableCollections$SetN"), accessFlags := 24, slot := 6, constantValue := 0 }, { name := "EMPTY_MAP", type := (.object "java/util/ImmutableCollections$MapN"), accessFlags := 24, slot := 7, constantValue := 0 }, { name := "EXPAND_FACTOR", type := .int, accessFlags := 24, slot := 8, constantValue := 0 }, { name := "$assertionsDisabled", type := .boolean, accessFlags := 4120, slot := 9, constantValue := 0 }]
  methods := #[k14m0]
  instanceTypes := #[]
  staticTypes := #[.long, .boolean, (.array (.object "java/lang/Object")), (.object "java/lang/Object"), (.object "java/util/ImmutableCollections$ListN"), (.object "java/util/ImmutableCollections$ListN"), (.object "java/util/ImmutableCollections$SetN"), (.object "java/util/ImmutableCollections$MapN"), .int, .boolean]
  resolved := Array.replicate 213 none
  statics := some 1 }

def pool15 : Array CpInfo := pool [(1, .methodref 2 3), (0, .class_ 4), (0, .nameAndType 5 6), (0, u "java/lang/Object"), (0, u "<init>"), (0, u "()V"), (1, .class_ 10), (1, u "java/util/AbstractCollection"), (66, .class_ 78), (0, u "java/util/Collection")] 81

def k15c0 : Code := { maxStack := 1, maxLocals := 1, code := jdk_22_method_1_code, exceptionTable := #[], attributes := #[] }
def k15m0 : Method := { name := "<init>", desc := "()V", sig := { parameters := [], returnType := none }, accessFlags := 4, code := some k15c0 }
/-- java/util/AbstractCollection -/
def k15 : Class := { plain "java/util/AbstractCollection" (some 0) with
  accessFlags := 1057
  interfaces := #[11]
  cf := some (fileOf pool15 8 #[] #[{ accessFlags := 4, nameIndex := 5, descriptorIndex := 6, attributes := #[] }] 1057 2 #[77] #[])
  fields := #[]
  methods := #[k15m0]
  instanceTypes := #[]
  staticTypes := #[]
  resolved := Array.replicate 160 none
  statics := none }

def pool16 : Array CpInfo := pool [(1, .methodref 2 3), (0, .class_ 4), (0, .nameAndType 5 6), (0, u "java/util/AbstractCollection"), (0, u "<init>"), (0, u "()V"), (0, .fieldref 8 9), (0, .class_ 10), (0, .nameAndType 11 12), (0, u "java/util/AbstractList"), (0, u "modCount"), (0, u "I"), (64, .class_ 78), (0, u "java/util/AbstractList$Itr"), (3, .class_ 83), (0, u "java/util/AbstractList$ListItr"), (9, .class_ 94), (0, u "java/util/AbstractList$RandomAccessSubList"), (3, .class_ 99), (0, u "java/util/AbstractList$SubList"), (33, .class_ 134), (0, u "java/util/List"), (73, .class_ 209), (0, u "java/util/AbstractList$SubList$1"), (0, .class_ 211), (0, u "java/util/AbstractList$RandomAccessSpliterator")] 6

def k16c0 : Code := { maxStack := 2, maxLocals := 1, code := jdk_39_method_1_code, exceptionTable := #[], attributes := #[] }
def k16m0 : Method := { name := "<init>", desc := "()V", sig := { parameters := [], returnType := none }, accessFlags := 4, code := some k16c0 }
/-- java/util/AbstractList -/
def k16 : Class := { plain "java/util/AbstractList" (some 15) with
  accessFlags := 1057
  interfaces := #[13]
  cf := some (fileOf pool16 8 #[.nestMembers #[93, 98, 208, 210, 82, 77]] #[{ accessFlags := 4, nameIndex := 5, descriptorIndex := 6, attributes := #[] }] 1057 2 #[133] #[{ accessFlags := 132, nameIndex := 11, descriptorIndex := 12, attributes := #[] }])
  fields := #[{ name := "modCount", type := .int, accessFlags := 132, slot := 0, constantValue := 0 }]
  methods := #[k16m0]
  instanceTypes := #[.int]
  staticTypes := #[]
  resolved := Array.replicate 218 none
  statics := none }

def pool17 : Array CpInfo := pool [(1, .class_ 2), (0, u "java/util/RandomAccess"), (0, .class_ 4), (0, u "java/lang/Object")] 2

/-- java/util/RandomAccess -/
def k17 : Class := { plain "java/util/RandomAccess" (some 0) with
  accessFlags := 1537
  interfaces := #[]
  cf := some (fileOf pool17 1 #[] #[] 1537 3 #[] #[])
  fields := #[]
  methods := #[]
  instanceTypes := #[]
  staticTypes := #[]
  resolved := Array.replicate 7 none
  statics := none }

def pool18 : Array CpInfo := pool [(1, .class_ 2), (0, u "java/lang/Cloneable"), (0, .class_ 4), (0, u "java/lang/Object")] 2

/-- java/lang/Cloneable -/
def k18 : Class := { plain "java/lang/Cloneable" (some 0) with
  accessFlags := 1537
  interfaces := #[]
  cf := some (fileOf pool18 1 #[] #[] 1537 3 #[] #[])
  fields := #[]
  methods := #[]
  instanceTypes := #[]
  staticTypes := #[]
  resolved := Array.replicate 7 none
  statics := none }

def pool19 : Array CpInfo := pool [(1, .methodref 2 3), (0, .class_ 4), (0, .nameAndType 5 6), (0, u "java/util/AbstractList"), (0, u "<init>"), (0, u "()V"), (2, .fieldref 10 11), (0, .class_ 12), (0, .nameAndType 13 14), (0, u "java/util/ArrayList"), (0, u "elementData"), (0, u "[Ljava/lang/Object;"), (2, u "EMPTY_ELEMENTDATA"), (21, .fieldref 10 40), (0, .nameAndType 41 14), (0, u "DEFAULTCAPACITY_EMPTY_ELEMENTDATA"), (8, u "size"), (0, u "I"), (96, .class_ 149), (0, u "java/util/List"), (112, .class_ 263), (0, u "java/util/ArrayList$ListItr"), (3, .class_ 268), (0, u "java/util/ArrayList$Itr"), (7, .class_ 277), (0, u "java/util/ArrayList$SubList"), (12, .class_ 291), (0, u "java/util/ArrayList$ArrayListSpliterator"), (37, .class_ 330), (0, u "java/util/RandomAccess"), (0, .class_ 332), (0, u "java/lang/Cloneable"), (0, .class_ 334), (0, u "java/io/Serializable"), (0, u "serialVersionUID"), (0, u "J"), (3, u "DEFAULT_CAPACITY"), (159, .class_ 501), (0, u "java/util/ArrayList$SubList$2"), (0, .class_ 503), (0, u "java/util/ArrayList$SubList$1")] 5

def k19c0 : Code := { maxStack := 2, maxLocals := 1, code := jdk_38_method_2_code, exceptionTable := #[], attributes := #[] }
def k19m0 : Method := { name := "<init>", desc := "()V", sig := { parameters := [], returnType := none }, accessFlags := 1, code := some k19c0 }
/-- java/util/ArrayList -/
def k19 : Class := { plain "java/util/ArrayList" (some 16) with
  accessFlags := 33
  interfaces := #[13, 17, 18, 2]
  cf := some (fileOf pool19 10 #[.nestMembers #[290, 276, 500, 502, 262, 267]] #[{ accessFlags := 1, nameIndex := 5, descriptorIndex := 6, attributes := #[] }] 33 2 #[148, 329, 331, 333] #[{ accessFlags := 26, nameIndex := 335, descriptorIndex := 336, attributes := #[] }, { accessFlags := 26, nameIndex := 340, descriptorIndex := 51, attributes := #[] }, { accessFlags := 26, nameIndex := 17, descriptorIndex := 14, attributes := #[] }, { accessFlags := 26, nameIndex := 41, descriptorIndex := 14, attributes := #[] }, { accessFlags := 128, nameIndex := 13, descriptorIndex := 14, attributes := #[] }, { accessFlags := 2, nameIndex := 50, descriptorIndex := 51, attributes := #[] }])
  fields := #[{ name := "serialVersionUID", type := .long, accessFlags := 26, slot := 0, constantValue := 0 }, { name := "DEFAULT_CAPACITY", type := .int, accessFlags := 26, slot := 1, constantValue := 0 }, { name := "EMPTY_ELEMENTDATA", type := (.array (.object "java/lang/Object")), accessFlags := 26, slot := 2, constantValue := 0 }, { name := "DEFAULTCAPACITY_EMPTY_ELEMENTDATA", type := (.array (.object "java/lang/Object")), accessFlags := 26, slot := 3, constantValue := 0 }, { name := "elementData", type := (.array (.object "java/lang/Object")), accessFlags := 128, slot := 1, constantValue := 0 }, { name := "size", type := .int, accessFlags := 2, slot := 2, constantValue := 0 }]
  methods := #[k19m0]
  instanceTypes := #[.int, (.array (.object "java/lang/Object")), .int]
  staticTypes := #[.long, .int, (.array (.object "java/lang/Object")), (.array (.object "java/lang/Object"))]
  resolved := Array.replicate 509 none
  statics := some 2 }

def pool20 : Array CpInfo := pool [(2, .class_ 4), (1, u "java/util/Map"), (31, .class_ 37), (0, u "java/util/Map$Entry"), (55, .class_ 94), (0, u "java/lang/Object")] 168

/-- java/util/Map -/
def k20 : Class := { plain "java/util/Map" (some 0) with
  accessFlags := 1537
  interfaces := #[]
  cf := some (fileOf pool20 2 #[.nestMembers #[36]] #[] 1537 93 #[] #[])
  fields := #[]
  methods := #[]
  instanceTypes := #[]
  staticTypes := #[]
  resolved := Array.replicate 263 none
  statics := none }

def pool21 : Array CpInfo := pool [(1, .methodref 2 3), (0, .class_ 4), (0, .nameAndType 5 6), (0, u "java/lang/Object"), (0, u "<init>"), (0, u "()V"), (1, .class_ 10), (1, u "java/util/AbstractMap"), (42, .class_ 54), (0, u "java/util/Map"), (9, u "keySet"), (0, u "Ljava/util/Set;"), (0, .class_ 67), (0, u "java/util/AbstractMap$1"), (5, u "values"), (0, u "Ljava/util/Collection;"), (0, .class_ 76), (0, u "java/util/AbstractMap$2"), (104, .class_ 182), (0, u "java/util/AbstractMap$ViewCollection"), (0, .class_ 184), (0, u "java/util/AbstractMap$SimpleImmutableEntry"), (0, .class_ 186), (0, u "java/util/AbstractMap$SimpleEntry"), (0, .class_ 188), (0, u "java/util/AbstractMap$2$1"), (0, .class_ 190), (0, u "java/util/AbstractMap$1$1")] 5

def k21c0 : Code := { maxStack := 1, maxLocals := 1, code := jdk_71_method_1_code, exceptionTable := #[], attributes := #[] }
def k21m0 : Method := { name := "<init>", desc := "()V", sig := { parameters := [], returnType := none }, accessFlags := 4, code := some k21c0 }
/-- java/util/AbstractMap -/
def k21 : Class := { plain "java/util/AbstractMap" (some 0) with
  accessFlags := 1057
  interfaces := #[20]
  cf := some (fileOf pool21 8 #[.nestMembers #[181, 183, 185, 75, 187, 66, 189]] #[{ accessFlags := 4, nameIndex := 5, descriptorIndex := 6, attributes := #[] }] 1057 2 #[53] #[{ accessFlags := 128, nameIndex := 64, descriptorIndex := 65, attributes := #[] }, { accessFlags := 128, nameIndex := 73, descriptorIndex := 74, attributes := #[] }])
  fields := #[{ name := "keySet", type := (.object "java/util/Set"), accessFlags := 128, slot := 0, constantValue := 0 }, { name := "values", type := (.object "java/util/Collection"), accessFlags := 128, slot := 1, constantValue := 0 }]
  methods := #[k21m0]
  instanceTypes := #[(.object "java/util/Set"), (.object "java/util/Collection")]
  staticTypes := #[]
  resolved := Array.replicate 196 none
  statics := none }

def pool22 : Array CpInfo := pool [(40, .class_ 41), (0, u "java/util/HashMap"), (1, .methodref 44 45), (0, .class_ 46), (0, .nameAndType 47 48), (0, u "java/util/AbstractMap"), (0, u "<init>"), (0, u "()V"), (32, .fieldref 40 82), (0, .nameAndType 83 84), (0, u "loadFactor"), (0, u "F"), (5, u "threshold"), (0, u "I"), (0, .float 1061158912), (8, .class_ 103), (1, u "java/util/Map"), (0, u "size"), (2, u "table"), (0, u "[Ljava/util/HashMap$Node;"), (14, u "entrySet"), (39, .class_ 165), (1, u "java/util/HashMap$Node"), (14, .class_ 181), (0, u "java/util/HashMap$TreeNode"), (22, u "modCount"), (37, u "Ljava/util/Set;"), (0, .class_ 244), (0, u "java/util/HashMap$KeySet"), (18, .class_ 264), (0, u "java/util/HashMap$Values"), (3, .class_ 269), (0, u "java/util/HashMap$EntrySet"), (76, .class_ 348), (1, u "java/util/HashMap$UnsafeHolder"), (43, .class_ 393), (0, u "java/lang/Cloneable"), (0, .class_ 395), (0, u "java/io/Serializable"), (0, u "serialVersionUID"), (0, u "J"), (3, u "DEFAULT_INITIAL_CAPACITY"), (1, u "MAXIMUM_CAPACITY"), (0, u "DEFAULT_LOAD_FACTOR"), (0, u "TREEIFY_THRESHOLD"), (1, u "UNTREEIFY_THRESHOLD"), (1, u "MIN_TREEIFY_CAPACITY"), (186, .class_ 597), (0, u "java/util/HashMap$EntrySpliterator"), (0, .class_ 599), (0, u "java/util/HashMap$ValueSpliterator"), (0, .class_ 601), (0, u "java/util/HashMap$KeySpliterator"), (0, .class_ 603), (0, u "java/util/HashMap$HashMapSpliterator"), (0, .class_ 605), (0, u "java/util/HashMap$EntryIterator"), (0, .class_ 607), (0, u "java/util/HashMap$ValueIterator"), (0, .class_ 609), (0, u "java/util/HashMap$KeyIterator"), (0, .class_ 611), (0, u "java/util/HashMap$HashIterator")] 17

def k22c0 : Code := { maxStack := 2, maxLocals := 1, code := jdk_69_method_7_code, exceptionTable := #[], attributes := #[] }
def k22m0 : Method := { name := "<init>", desc := "()V", sig := { parameters := [], returnType := none }, accessFlags := 1, code := some k22c0 }
/-- java/util/HashMap -/
def k22 : Class := { plain "java/util/HashMap" (some 21) with
  accessFlags := 33
  interfaces := #[20, 18, 2]
  cf := some (fileOf pool22 40 #[.nestMembers #[180, 596, 598, 600, 602, 604, 606, 608, 610, 346, 268, 263, 243, 163]] #[{ accessFlags := 1, nameIndex := 47, descriptorIndex := 48, attributes := #[] }] 33 44 #[101, 392, 394] #[{ accessFlags := 26, nameIndex := 396, descriptorIndex := 397, attributes := #[] }, { accessFlags := 24, nameIndex := 401, descriptorIndex := 91, attributes := #[] }, { accessFlags := 24, nameIndex := 403, descriptorIndex := 91, attributes := #[] }, { accessFlags := 24, nameIndex := 404, descriptorIndex := 84, attributes := #[] }, { accessFlags := 24, nameIndex := 405, descriptorIndex := 91, attributes := #[] }, { accessFlags := 24, nameIndex := 407, descriptorIndex := 91, attributes := #[] }, { accessFlags := 24, nameIndex := 409, descriptorIndex := 91, attributes := #[] }, { accessFlags := 128, nameIndex := 107, descriptorIndex := 108, attributes := #[] }, { accessFlags := 128, nameIndex := 123, descriptorIndex := 242, attributes := #[] }, { accessFlags := 128, nameIndex := 104, descriptorIndex := 91, attributes := #[] }, { accessFlags := 128, nameIndex := 204, descriptorIndex := 91, attributes := #[] }, { accessFlags := 0, nameIndex := 90, descriptorIndex := 91, attributes := #[] }, { accessFlags := 16, nameIndex := 83, descriptorIndex := 84, attributes := #[] }])
  fields := #[{ name := "serialVersionUID", type := .long, accessFlags := 26, slot := 0, constantValue := 0 }, { name := "DEFAULT_INITIAL_CAPACITY", type := .int, accessFlags := 24, slot := 1, constantValue := 0 }, { name := "MAXIMUM_CAPACITY", type := .int, accessFlags := 24, slot := 2, constantValue := 0 }, { name := "DEFAULT_LOAD_FACTOR", type := .float, accessFlags := 24, slot := 3, constantValue := 0 }, { name := "TREEIFY_THRESHOLD", type := .int, accessFlags := 24, slot := 4, constantValue := 0 }, { name := "UNTREEIFY_THRESHOLD", type := .int, accessFlags := 24, slot := 5, constantValue := 0 }, { name := "MIN_TREEIFY_CAPACITY", type := .int, accessFlags := 24, slot := 6, constantValue := 0 }, { name := "table", type := (.array (.object "java/util/HashMap$Node")), accessFlags := 128, slot := 2, constantValue := 0 }, { name := "entrySet", type := (.object "java/util/Set"), accessFlags := 128, slot := 3, constantValue := 0 }, { name := "size", type := .int, accessFlags := 128, slot := 4, constantValue := 0 }, { name := "modCount", type := .int, accessFlags := 128, slot := 5, constantValue := 0 }, { name := "threshold", type := .int, accessFlags := 0, slot := 6, constantValue := 0 }, { name := "loadFactor", type := .float, accessFlags := 16, slot := 7, constantValue := 0 }]
  methods := #[k22m0]
  instanceTypes := #[(.object "java/util/Set"), (.object "java/util/Collection"), (.array (.object "java/util/HashMap$Node")), (.object "java/util/Set"), .int, .int, .int, .float]
  staticTypes := #[.long, .int, .int, .float, .int, .int, .int]
  resolved := Array.replicate 629 none
  statics := none }

def pool23 : Array CpInfo := pool [(2, .class_ 4), (1, u "java/util/SequencedMap"), (38, .class_ 44), (0, u "java/util/SequencedMap$1SeqKeySet"), (3, .class_ 49), (0, u "java/util/SequencedMap$1SeqValues"), (1, .class_ 52), (0, u "java/util/SequencedMap$1SeqEntrySet"), (1, .class_ 55), (0, u "java/lang/Object"), (0, .class_ 57), (0, u "java/util/Map")] 48

/-- java/util/SequencedMap -/
def k23 : Class := { plain "java/util/SequencedMap" (some 0) with
  accessFlags := 1537
  interfaces := #[20]
  cf := some (fileOf pool23 2 #[.nestMembers #[51, 48, 43]] #[] 1537 54 #[56] #[])
  fields := #[]
  methods := #[]
  instanceTypes := #[]
  staticTypes := #[]
  resolved := Array.replicate 106 none
  statics := none }

def pool24 : Array CpInfo := pool [(1, .fieldref 2 3), (0, .class_ 4), (0, .nameAndType 5 6), (0, u "java/util/LinkedHashMap"), (0, u "putMode"), (0, u "I"), (2, u "head"), (0, u "Ljava/util/LinkedHashMap$Entry;"), (2, u "tail"), (1, .class_ 17), (1, u "java/util/LinkedHashMap$Entry"), (5, .class_ 25), (1, u "java/util/HashMap"), (1, u "()V"), (2, u "<init>"), (33, .fieldref 2 65), (0, .nameAndType 66 67), (0, u "accessOrder"), (0, u "Z"), (19, .methodref 23 88), (0, .nameAndType 30 27), (32, .class_ 122), (0, u "java/util/LinkedHashMap$LinkedKeySet"), (20, .class_ 144), (0, u "java/util/LinkedHashMap$LinkedValues"), (9, .class_ 155), (0, u "java/util/LinkedHashMap$LinkedEntrySet"), (44, .class_ 201), (0, u "java/util/LinkedHashMap$ReversedLinkedHashMapView"), (3, .class_ 206), (0, u "java/util/SequencedMap"), (0, u "serialVersionUID"), (0, u "J"), (5, u "PUT_NORM"), (1, u "PUT_FIRST"), (1, u "PUT_LAST"), (143, .class_ 363), (0, u "java/util/LinkedHashMap$LinkedEntryIterator"), (0, .class_ 365), (0, u "java/util/LinkedHashMap$LinkedValueIterator"), (0, .class_ 367), (0, u "java/util/LinkedHashMap$LinkedKeyIterator"), (0, .class_ 369), (0, u "java/util/LinkedHashMap$LinkedHashIterator")] 16

def k24c0 : Code := { maxStack := 2, maxLocals := 1, code := jdk_94_method_16_code, exceptionTable := #[], attributes := #[] }
def k24m0 : Method := { name := "<init>", desc := "()V", sig := { parameters := [], returnType := none }, accessFlags := 1, code := some k24c0 }
/-- java/util/LinkedHashMap -/
def k24 : Class := { plain "java/util/LinkedHashMap" (some 22) with
  accessFlags := 33
  interfaces := #[23]
  cf := some (fileOf pool24 2 #[.nestMembers #[200, 362, 364, 366, 368, 154, 143, 121, 15]] #[{ accessFlags := 1, nameIndex := 30, descriptorIndex := 27, attributes := #[] }] 33 23 #[205] #[{ accessFlags := 26, nameIndex := 207, descriptorIndex := 208, attributes := #[] }, { accessFlags := 128, nameIndex := 9, descriptorIndex := 10, attributes := #[] }, { accessFlags := 128, nameIndex := 13, descriptorIndex := 10, attributes := #[] }, { accessFlags := 16, nameIndex := 66, descriptorIndex := 67, attributes := #[] }, { accessFlags := 24, nameIndex := 214, descriptorIndex := 6, attributes := #[] }, { accessFlags := 24, nameIndex := 216, descriptorIndex := 6, attributes := #[] }, { accessFlags := 24, nameIndex := 218, descriptorIndex := 6, attributes := #[] }, { accessFlags := 128, nameIndex := 5, descriptorIndex := 6, attributes := #[] }])
  fields := #[{ name := "serialVersionUID", type := .long, accessFlags := 26, slot := 0, constantValue := 0 }, { name := "head", type := (.object "java/util/LinkedHashMap$Entry"), accessFlags := 128, slot := 8, constantValue := 0 }, { name := "tail", type := (.object "java/util/LinkedHashMap$Entry"), accessFlags := 128, slot := 9, constantValue := 0 }, { name := "accessOrder", type := .boolean, accessFlags := 16, slot := 10, constantValue := 0 }, { name := "PUT_NORM", type := .int, accessFlags := 24, slot := 1, constantValue := 0 }, { name := "PUT_FIRST", type := .int, accessFlags := 24, slot := 2, constantValue := 0 }, { name := "PUT_LAST", type := .int, accessFlags := 24, slot := 3, constantValue := 0 }, { name := "putMode", type := .int, accessFlags := 128, slot := 11, constantValue := 0 }]
  methods := #[k24m0]
  instanceTypes := #[(.object "java/util/Set"), (.object "java/util/Collection"), (.array (.object "java/util/HashMap$Node")), (.object "java/util/Set"), .int, .int, .int, .float, (.object "java/util/LinkedHashMap$Entry"), (.object "java/util/LinkedHashMap$Entry"), .boolean, .int]
  staticTypes := #[.long, .int, .int, .int]
  resolved := Array.replicate 386 none
  statics := none }

def pool25 : Array CpInfo := pool [(2, .class_ 4), (1, u "java/lang/Object"), (0, u "<init>"), (0, u "()V"), (35, .class_ 44), (1, u "java/util/Objects"), (0, u "requireNonNull"), (48, u "(Ljava/lang/Object;Ljava/lang/String;)Ljava/lang/Object;")] 89

def k25m0 : Method := { name := "<init>", desc := "()V", sig := { parameters := [], returnType := none }, accessFlags := 2, code := none }
def k25c1 : Code := { maxStack := 3, maxLocals := 2, code := jdk_31_method_11_code, exceptionTable := #[], attributes := #[] }
def k25m1 : Method := { name := "requireNonNull", desc := "(Ljava/lang/Object;Ljava/lang/String;)Ljava/lang/Object;", sig := { parameters := [(.object "java/lang/Object"), (.object "java/lang/String")], returnType := some (.object "java/lang/Object") }, accessFlags := 9, code := some k25c1 }
/-- java/util/Objects -/
def k25 : Class := { plain "java/util/Objects" (some 0) with
  accessFlags := 49
  interfaces := #[]
  cf := some (fileOf pool25 42 #[] #[{ accessFlags := 2, nameIndex := 5, descriptorIndex := 6, attributes := #[] }, { accessFlags := 9, nameIndex := 45, descriptorIndex := 94, attributes := #[] }] 49 2 #[] #[])
  fields := #[]
  methods := #[k25m0, k25m1]
  instanceTypes := #[]
  staticTypes := #[]
  resolved := Array.replicate 184 none
  statics := none }

def pool26 : Array CpInfo := pool [(4, .class_ 6), (1, u "java/lang/Object"), (0, u "<init>"), (0, u "()V"), (5, .class_ 16), (1, u "java/lang/StringLatin1"), (104, u "$assertionsDisabled"), (0, u "Z"), (98, .class_ 223), (1, u "java/lang/StringLatin1$LinesSpliterator"), (57, u "equals"), (0, u "([B[B)Z"), (107, .class_ 391), (0, u "java/lang/StringLatin1$CharsSpliterator")] 3

def k26m0 : Method := { name := "<init>", desc := "()V", sig := { parameters := [], returnType := none }, accessFlags := 0, code := none }
def k26c1 : Code := { maxStack := 3, maxLocals := 3, code := jdk_43_method_13_code, exceptionTable := #[], attributes := #[] }
def k26m1 : Method := { name := "equals", desc := "([B[B)Z", sig := { parameters := [(.array .byte), (.array .byte)], returnType := some .boolean }, accessFlags := 9, code := some k26c1 }
/-- java/lang/StringLatin1 -/
def k26 : Class := { plain "java/lang/StringLatin1" (some 0) with
  accessFlags := 48
  interfaces := #[]
  cf := some (fileOf pool26 14 #[.nestMembers #[390, 221]] #[{ accessFlags := 0, nameIndex := 7, descriptorIndex := 8, attributes := #[] }, { accessFlags := 9, nameIndex := 281, descriptorIndex := 282, attributes := #[] }] 48 4 #[] #[{ accessFlags := 4120, nameIndex := 121, descriptorIndex := 122, attributes := #[] }])
  fields := #[{ name := "$assertionsDisabled", type := .boolean, accessFlags := 4120, slot := 0, constantValue := 0 }]
  methods := #[k26m0, k26m1]
  instanceTypes := #[]
  staticTypes := #[.boolean]
  resolved := Array.replicate 395 none
  statics := none }

def pool27 : Array CpInfo := pool [(2, .class_ 4), (1, u "java/lang/Object"), (0, u "<init>"), (0, u "()V"), (17, .class_ 26), (1, u "jdk/internal/util/Preconditions"), (28, .class_ 56), (0, u "jdk/internal/util/Preconditions$4"), (57, .class_ 115), (0, u "jdk/internal/util/Preconditions$1"), (7, u "SIOOBE_FORMATTER"), (0, u "Ljava/util/function/BiFunction;"), (0, .class_ 126), (0, u "jdk/internal/util/Preconditions$2"), (3, u "AIOOBE_FORMATTER"), (0, .class_ 132), (0, u "jdk/internal/util/Preconditions$3"), (3, u "IOOBE_FORMATTER")] 57

def k27m0 : Method := { name := "<init>", desc := "()V", sig := { parameters := [], returnType := none }, accessFlags := 1, code := none }
/-- jdk/internal/util/Preconditions -/
def k27 : Class := { plain "jdk/internal/util/Preconditions" (some 0) with
  accessFlags := 33
  interfaces := #[]
  cf := some (fileOf pool27 24 #[.nestMembers #[55, 131, 125, 114]] #[{ accessFlags := 1, nameIndex := 5, descriptorIndex := 6, attributes := #[] }] 33 2 #[] #[{ accessFlags := 25, nameIndex := 123, descriptorIndex := 124, attributes := #[] }, { accessFlags := 25, nameIndex := 130, descriptorIndex := 124, attributes := #[] }, { accessFlags := 25, nameIndex := 136, descriptorIndex := 124, attributes := #[] }])
  fields := #[{ name := "SIOOBE_FORMATTER", type := (.object "java/util/function/BiFunction"), accessFlags := 25, slot := 0, constantValue := 0 }, { name := "AIOOBE_FORMATTER", type := (.object "java/util/function/BiFunction"), accessFlags := 25, slot := 1, constantValue := 0 }, { name := "IOOBE_FORMATTER", type := (.object "java/util/function/BiFunction"), accessFlags := 25, slot := 2, constantValue := 0 }]
  methods := #[k27m0]
  instanceTypes := #[]
  staticTypes := #[(.object "java/util/function/BiFunction"), (.object "java/util/function/BiFunction"), (.object "java/util/function/BiFunction")]
  resolved := Array.replicate 194 none
  statics := some 3 }

def pool28 : Array CpInfo := pool [(9, u "<init>"), (6, .class_ 18), (1, u "java/lang/Object"), (0, u "()V"), (1, .class_ 23), (1, u "jdk/internal/util/ArraysSupport"), (0, u "LOG2_ARRAY_LONG_INDEX_SCALE"), (0, u "I"), (2, u "U"), (0, u "Ljdk/internal/misc/Unsafe;"), (8, u "BIG_ENDIAN"), (0, u "Z"), (8, u "LOG2_BYTE_BIT_SIZE"), (4, u "LOG2_ARRAY_INT_INDEX_SCALE"), (54, u "JLA"), (0, u "Ljdk/internal/access/JavaLangAccess;"), (11, u "LOG2_ARRAY_BOOLEAN_INDEX_SCALE"), (9, u "LOG2_ARRAY_BYTE_INDEX_SCALE"), (5, u "LOG2_ARRAY_CHAR_INDEX_SCALE"), (5, u "LOG2_ARRAY_SHORT_INDEX_SCALE"), (18, u "LOG2_ARRAY_FLOAT_INDEX_SCALE"), (24, u "LOG2_ARRAY_DOUBLE_INDEX_SCALE"), (89, u "T_BOOLEAN"), (2, u "T_CHAR"), (1, u "T_FLOAT"), (1, u "T_DOUBLE"), (1, u "T_BYTE"), (1, u "T_SHORT"), (1, u "T_INT"), (1, u "T_LONG"), (1, u "SOFT_MAX_ARRAY_LENGTH")] 83

def k28m0 : Method := { name := "<init>", desc := "()V", sig := { parameters := [], returnType := none }, accessFlags := 2, code := none }
/-- jdk/internal/util/ArraysSupport -/
def k28 : Class := { plain "jdk/internal/util/ArraysSupport" (some 0) with
  accessFlags := 33
  interfaces := #[]
  cf := some (fileOf pool28 21 #[] #[{ accessFlags := 2, nameIndex := 9, descriptorIndex := 19, attributes := #[] }] 33 16 #[] #[{ accessFlags := 24, nameIndex := 28, descriptorIndex := 29, attributes := #[] }, { accessFlags := 26, nameIndex := 38, descriptorIndex := 39, attributes := #[] }, { accessFlags := 25, nameIndex := 121, descriptorIndex := 25, attributes := #[] }, { accessFlags := 25, nameIndex := 131, descriptorIndex := 25, attributes := #[] }, { accessFlags := 25, nameIndex := 137, descriptorIndex := 25, attributes := #[] }, { accessFlags := 25, nameIndex := 143, descriptorIndex := 25, attributes := #[] }, { accessFlags := 25, nameIndex := 53, descriptorIndex := 25, attributes := #[] }, { accessFlags := 25, nameIndex := 24, descriptorIndex := 25, attributes := #[] }, { accessFlags := 25, nameIndex := 162, descriptorIndex := 25, attributes := #[] }, { accessFlags := 25, nameIndex := 187, descriptorIndex := 25, attributes := #[] }, { accessFlags := 26, nameIndex := 48, descriptorIndex := 25, attributes := #[] }, { accessFlags := 25, nameIndex := 277, descriptorIndex := 25, attributes := #[] }, { accessFlags := 25, nameIndex := 280, descriptorIndex := 25, attributes := #[] }, { accessFlags := 25, nameIndex := 282, descriptorIndex := 25, attributes := #[] }, { accessFlags := 25, nameIndex := 284, descriptorIndex := 25, attributes := #[] }, { accessFlags := 25, nameIndex := 286, descriptorIndex := 25, attributes := #[] }, { accessFlags := 25, nameIndex := 288, descriptorIndex := 25, attributes := #[] }, { accessFlags := 25, nameIndex := 290, descriptorIndex := 25, attributes := #[] }, { accessFlags := 25, nameIndex := 292, descriptorIndex := 25, attributes := #[] }, { accessFlags := 26, nameIndex := 108, descriptorIndex := 109, attributes := #[] }, { accessFlags := 25, nameIndex := 294, descriptorIndex := 25, attributes := #[] }])
  fields := #[{ name := "U", type := (.object "jdk/internal/misc/Unsafe"), accessFlags := 24, slot := 0, constantValue := 0 }, { name := "BIG_ENDIAN", type := .boolean, accessFlags := 26, slot := 1, constantValue := 0 }, { name := "LOG2_ARRAY_BOOLEAN_INDEX_SCALE", type := .int, accessFlags := 25, slot := 2, constantValue := 0 }, { name := "LOG2_ARRAY_BYTE_INDEX_SCALE", type := .int, accessFlags := 25, slot := 3, constantValue := 0 }, { name := "LOG2_ARRAY_CHAR_INDEX_SCALE", type := .int, accessFlags := 25, slot := 4, constantValue := 0 }, { name := "LOG2_ARRAY_SHORT_INDEX_SCALE", type := .int, accessFlags := 25, slot := 5, constantValue := 0 }, { name := "LOG2_ARRAY_INT_INDEX_SCALE", type := .int, accessFlags := 25, slot := 6, constantValue := 0 }, { name := "LOG2_ARRAY_LONG_INDEX_SCALE", type := .int, accessFlags := 25, slot := 7, constantValue := 0 }, { name := "LOG2_ARRAY_FLOAT_INDEX_SCALE", type := .int, accessFlags := 25, slot := 8, constantValue := 0 }, { name := "LOG2_ARRAY_DOUBLE_INDEX_SCALE", type := .int, accessFlags := 25, slot := 9, constantValue := 0 }, { name := "LOG2_BYTE_BIT_SIZE", type := .int, accessFlags := 26, slot := 10, constantValue := 0 }, { name := "T_BOOLEAN", type := .int, accessFlags := 25, slot := 11, constantValue := 0 }, { name := "T_CHAR", type := .int, accessFlags := 25, slot := 12, constantValue := 0 }, { name := "T_FLOAT", type := .int, accessFlags := 25, slot := 13, constantValue := 0 }, { name := "T_DOUBLE", type := .int, accessFlags := 25, slot := 14, constantValue := 0 }, { name := "T_BYTE", type := .int, accessFlags := 25, slot := 15, constantValue := 0 }, { name := "T_SHORT", type := .int, accessFlags := 25, slot := 16, constantValue := 0 }, { name := "T_INT", type := .int, accessFlags := 25, slot := 17, constantValue := 0 }, { name := "T_LONG", type := .int, accessFlags := 25, slot := 18, constantValue := 0 }, { name := "JLA", type := (.object "jdk/internal/access/JavaLangAccess"), accessFlags := 26, slot := 19, constantValue := 0 }, { name := "SOFT_MAX_ARRAY_LENGTH", type := .int, accessFlags := 25, slot := 20, constantValue := 0 }]
  methods := #[k28m0]
  instanceTypes := #[]
  staticTypes := #[(.object "jdk/internal/misc/Unsafe"), .boolean, .int, .int, .int, .int, .int, .int, .int, .int, .int, .int, .int, .int, .int, .int, .int, .int, .int, (.object "jdk/internal/access/JavaLangAccess"), .int]
  resolved := Array.replicate 378 none
  statics := none }

def pool29 : Array CpInfo := pool [(2, .class_ 4), (1, u "java/util/AbstractCollection"), (0, u "<init>"), (0, u "()V"), (1, .class_ 10), (1, u "java/util/ImmutableCollections"), (2, .class_ 14), (0, u "java/util/ImmutableCollections$AbstractImmutableCollection")] 41

def k29m0 : Method := { name := "<init>", desc := "()V", sig := { parameters := [], returnType := none }, accessFlags := 0, code := none }
/-- java/util/ImmutableCollections$AbstractImmutableCollection -/
def k29 : Class := { plain "java/util/ImmutableCollections$AbstractImmutableCollection" (some 15) with
  accessFlags := 1056
  interfaces := #[]
  cf := some (fileOf pool29 13 #[.nestHost 8] #[{ accessFlags := 0, nameIndex := 5, descriptorIndex := 6, attributes := #[] }] 1056 2 #[] #[])
  fields := #[]
  methods := #[k29m0]
  instanceTypes := #[]
  staticTypes := #[]
  resolved := Array.replicate 56 none
  statics := none }

def pool30 : Array CpInfo := pool [(2, .class_ 4), (1, u "java/util/ImmutableCollections$AbstractImmutableCollection"), (0, u "<init>"), (0, u "()V"), (1, .class_ 10), (1, u "java/util/ImmutableCollections"), (3, .class_ 16), (1, u "java/util/ImmutableCollections$AbstractImmutableList"), (60, .class_ 78), (0, u "java/util/List"), (45, .class_ 125), (0, u "java/util/RandomAccess")] 70

def k30m0 : Method := { name := "<init>", desc := "()V", sig := { parameters := [], returnType := none }, accessFlags := 0, code := none }
/-- java/util/ImmutableCollections$AbstractImmutableList -/
def k30 : Class := { plain "java/util/ImmutableCollections$AbstractImmutableList" (some 29) with
  accessFlags := 1056
  interfaces := #[13, 17]
  cf := some (fileOf pool30 14 #[.nestHost 8] #[{ accessFlags := 0, nameIndex := 5, descriptorIndex := 6, attributes := #[] }] 1056 2 #[77, 124] #[])
  fields := #[]
  methods := #[k30m0]
  instanceTypes := #[]
  staticTypes := #[]
  resolved := Array.replicate 196 none
  statics := none }

def pool31 : Array CpInfo := pool [(2, .class_ 4), (1, u "java/util/ImmutableCollections$AbstractImmutableList"), (3, .class_ 10), (1, u "java/util/ImmutableCollections$ListN"), (0, u "elements"), (0, u "[Ljava/lang/Object;"), (2, u "allowNulls"), (0, u "Z"), (42, .class_ 60), (0, u "java/io/Serializable"), (53, .class_ 115), (0, u "java/util/ImmutableCollections")] 3

/-- java/util/ImmutableCollections$ListN -/
def k31 : Class := { plain "java/util/ImmutableCollections$ListN" (some 30) with
  accessFlags := 48
  interfaces := #[2]
  cf := some (fileOf pool31 8 #[.nestHost 114] #[] 48 2 #[59] #[{ accessFlags := 18, nameIndex := 11, descriptorIndex := 12, attributes := #[] }, { accessFlags := 18, nameIndex := 15, descriptorIndex := 16, attributes := #[] }])
  fields := #[{ name := "elements", type := (.array (.object "java/lang/Object")), accessFlags := 18, slot := 0, constantValue := 0 }, { name := "allowNulls", type := .boolean, accessFlags := 18, slot := 1, constantValue := 0 }]
  methods := #[]
  instanceTypes := #[(.array (.object "java/lang/Object")), .boolean]
  staticTypes := #[]
  resolved := Array.replicate 119 none
  statics := none }

/-- the primitive byte -/
def k32 : Class := { plain "byte" none with kind := .primitive 'B', accessFlags := 0x411 }
/-- [B -/
def k33 : Class := { plain "[B" (some 0) with kind := .array 32 .byte, interfaces := #[18, 2], accessFlags := 1041 }

/-- the primitive char -/
def k34 : Class := { plain "char" none with kind := .primitive 'C', accessFlags := 0x411 }
/-- [C -/
def k35 : Class := { plain "[C" (some 0) with kind := .array 34 .char, interfaces := #[18, 2], accessFlags := 1041 }

/-- the primitive int -/
def k36 : Class := { plain "int" none with kind := .primitive 'I', accessFlags := 0x411 }
/-- [I -/
def k37 : Class := { plain "[I" (some 0) with kind := .array 36 .int, interfaces := #[18, 2], accessFlags := 1041 }

/-- [Ljava/lang/Object; -/
def k38 : Class := { plain "[Ljava/lang/Object;" (some 0) with kind := .array 0 (.object "java/lang/Object"), interfaces := #[18, 2], accessFlags := 1041 }

def heap : Heap := #[{ cls := 7, slots := #[.long 0, .int 1, .null, .int 0, .null, .int 0, .int 0], vm := .statics 7 },
  { cls := 14, slots := #[.long 0, .int 0, .null, .null, .ref 5, .null, .null, .null, .int 0, .int 0], vm := .statics 14 },
  { cls := 19, slots := #[.long 0, .int 0, .ref 6, .ref 7], vm := .statics 19 },
  { cls := 27, slots := #[.null, .null, .null], vm := .statics 27 },
  { cls := 38, slots := #[], vm := .none },
  { cls := 31, slots := #[.ref 4, .int 0], vm := .none },
  { cls := 38, slots := #[], vm := .none },
  { cls := 38, slots := #[], vm := .none }]
def classes : Array Class := #[k0, k1, k2, k3, k4, k5, k6, k7, k8, k9, k10, k11, k12, k13, k14, k15, k16, k17, k18, k19, k20, k21, k22, k23, k24, k25, k26, k27, k28, k29, k30, k31, k32, k33, k34, k35, k36, k37, k38]
def interned : List (Array UInt16 × Addr) := []
def slotsUsed : Nat := 26
def theMethod : MethodId := ⟨1, 1⟩
def args0 : Array Value := #[.int 1, .int 65, .int 66, .int 1]
def aboutOver (below : List Frame) : State where
  vm := { classes := classes, interned := interned.toArray }
  heap := heap
  slotsUsed := slotsUsed
  threads := #[{ frames := .invoking theMethod args0 :: below }]
def below0 : List Frame := [.native { method := ⟨0, 0⟩, args := #[] }]
def about1 : State := aboutOver below0
def p0 : Program := .bare "" "" ""
def e0 : Env := launch0.env 0 0 0
theorem w_frames : about1.frames = Frame.invoking theMethod args0 :: below0 := rfl
set_option maxRecDepth 65536 in
theorem w_args : argsFit about1.vm theMethod args0 = true := by decide +kernel
set_option maxRecDepth 65536 in
theorem w_heap : heapFits about1 = true := by decide +kernel
set_option maxRecDepth 65536 in
theorem w_runnable : about1.curStatus? = some .runnable := by decide +kernel
set_option maxRecDepth 65536 in
theorem w_alone : about1.alone = true := by decide +kernel
set_option maxRecDepth 65536 in
theorem w_named : about1.methodNamed? x = some theMethod := by decide +kernel
set_option maxRecDepth 65536 in
theorem w_hears : about1.hears theMethod below0 = true := by decide +kernel
set_option maxRecDepth 65536 in
theorem w_ripe : about1.ripe theMethod args0 below0 = true := by decide +kernel
theorem w_running : about1.status = .running := rfl
set_option maxRecDepth 65536 in
theorem w_room : about1.hasRoom e0.platform room_1 = true :=
  launch0.hasRoom_least _ room_1 (by decide +kernel) (by decide +kernel) (by decide +kernel) (by decide +kernel) (by decide +kernel) (by decide +kernel)
theorem allAtoms_all (ts : List Jvm.Cond) (a : Array Jvm.Value) (st : Jvm.State) : (allAtoms ts).before a st = ts.all (fun c => c.before a st) := by
  induction ts with
  | nil => rfl
  | cons c t ih =>
    show (Jvm.Cond.and c (allAtoms t)).before a st = _
    rw [Jvm.Cond.before_and, ih, List.all_cons]
def words1 : List Jvm.Cond := Jvm.Cond.code x code maxLocals ret :: tables_1
/-- a 'code' word, met by the world's own term for the bytes: nothing is compared byte by byte -/
theorem code_word {y : MethodName} {bytes : ByteArray} {mx : Nat} {rt : Option FieldType} {a : Array Value} {s : State} {m : MethodId} {meth : Method} {c : Code} (h1 : s.methodNamed? y = some m) (h2 : s.vm.method? m = some meth) (h3 : meth.code = some c) (h4 : c.code = bytes)
    (h5 : (c.maxLocals == mx && c.exceptionTable.isEmpty && decide (c.maxStack ≤ mostOperands) && decide (meth.sig.returnType = rt) && !meth.locks && decide (parseMethodDescriptor y.desc = some meth.sig)) = true) : (Jvm.Cond.code y bytes mx rt).before a s = true := by
  simp only [Bool.and_eq_true, beq_iff_eq, Bool.not_eq_true', decide_eq_true_eq] at h5
  obtain ⟨⟨⟨⟨⟨g1, g2⟩, g3⟩, g4⟩, g5⟩, g6⟩ := h5
  simp [Cond.before, Cond.holds, Cond.value, h1, h2, h3, h4, g1, g2, g3, g4, g5, g6]
def isCode : Jvm.Cond → Bool
  | .code _ _ _ _ => true
  | _ => false
theorem all_split {L : List Jvm.Cond} {P : Jvm.Cond → Bool} (h1 : L.all (fun c => isCode c || P c) = true) (h2 : ∀ c ∈ L.filter isCode, P c = true) : L.all P = true := by
  refine List.all_eq_true.mpr fun c hc => ?_
  have h := List.all_eq_true.mp h1 c hc
  rcases Bool.eq_false_or_eq_true (isCode c) with hi | hi
  · exact h2 c (List.mem_filter.mpr ⟨hc, hi⟩)
  · simpa [hi] using h
set_option maxRecDepth 65536 in
theorem w_c0 : (Jvm.Cond.code x code maxLocals ret).before args0 about1 = true := code_word (m := ⟨1, 1⟩) (meth := k1m1) (c := k1c1) (by decide +kernel) rfl rfl rfl (by decide +kernel)
set_option maxRecDepth 65536 in
theorem w_c1 : (Jvm.Cond.code ({ cls := "java/lang/String", name := "<init>", desc := "([C)V" } : Jvm.MethodName) jdk_42_method_3_code (2 : Nat) (Option.none : Option Jvm.ClassFile.FieldType)).before args0 about1 = true := code_word (m := ⟨7, 1⟩) (meth := k7m1) (c := k7c1) (by decide +kernel) rfl rfl rfl (by decide +kernel)
set_option maxRecDepth 65536 in
theorem w_c2 : (Jvm.Cond.code ({ cls := "java/lang/String", name := "<init>", desc := "([CIILjava/lang/Void;)V" } : Jvm.MethodName) jdk_42_method_149_code (6 : Nat) (Option.none : Option Jvm.ClassFile.FieldType)).before args0 about1 = true := code_word (m := ⟨7, 3⟩) (meth := k7m3) (c := k7c3) (by decide +kernel) rfl rfl rfl (by decide +kernel)
set_option maxRecDepth 65536 in
theorem w_c3 : (Jvm.Cond.code ({ cls := "java/lang/Object", name := "<init>", desc := "()V" } : Jvm.MethodName) object_method_1_code (1 : Nat) (Option.none : Option Jvm.ClassFile.FieldType)).before args0 about1 = true := code_word (m := ⟨0, 0⟩) (meth := k0m0) (c := k0c0) (by decide +kernel) rfl rfl rfl (by decide +kernel)
set_option maxRecDepth 65536 in
theorem w_c4 : (Jvm.Cond.code ({ cls := "java/lang/StringUTF16", name := "compress", desc := "([CII)[B" } : Jvm.MethodName) jdk_52_method_16_code (6 : Nat) (Option.some (Jvm.ClassFile.FieldType.array Jvm.ClassFile.FieldType.byte))).before args0 about1 = true := code_word (m := ⟨8, 2⟩) (meth := k8m2) (c := k8c2) (by decide +kernel) rfl rfl rfl (by decide +kernel)
set_option maxRecDepth 65536 in
theorem w_c5 : (Jvm.Cond.code ({ cls := "java/lang/StringUTF16", name := "compress", desc := "([CI[BII)I" } : Jvm.MethodName) jdk_52_method_21_code (7 : Nat) (Option.some Jvm.ClassFile.FieldType.int)).before args0 about1 = true := code_word (m := ⟨8, 3⟩) (meth := k8m3) (c := k8c3) (by decide +kernel) rfl rfl rfl (by decide +kernel)
set_option maxRecDepth 65536 in
theorem w_c6 : (Jvm.Cond.code ({ cls := "java/lang/StringUTF16", name := "coderFromArrayLen", desc := "([BI)B" } : Jvm.MethodName) jdk_52_method_15_code (2 : Nat) (Option.some Jvm.ClassFile.FieldType.byte)).before args0 about1 = true := code_word (m := ⟨8, 1⟩) (meth := k8m1) (c := k8c1) (by decide +kernel) rfl rfl rfl (by decide +kernel)
set_option maxRecDepth 65536 in
theorem w_c7 : (Jvm.Cond.code ({ cls := "com/example/montaje/montaje/beans/BeanDefinition", name := "<init>", desc := "(Ljava/lang/String;Ljava/lang/String;)V" } : Jvm.MethodName) prog_4_method_1_code (3 : Nat) (Option.none : Option Jvm.ClassFile.FieldType)).before args0 about1 = true := code_word (m := ⟨9, 0⟩) (meth := k9m0) (c := k9c0) (by decide +kernel) rfl rfl rfl (by decide +kernel)
set_option maxRecDepth 65536 in
theorem w_c8 : (Jvm.Cond.code ({ cls := "java/util/List", name := "of", desc := "()Ljava/util/List;" } : Jvm.MethodName) jdk_40_method_36_code (0 : Nat) (Option.some (Jvm.ClassFile.FieldType.object "java/util/List"))).before args0 about1 = true := code_word (m := ⟨13, 0⟩) (meth := k13m0) (c := k13c0) (by decide +kernel) rfl rfl rfl (by decide +kernel)
set_option maxRecDepth 65536 in
theorem w_c9 : (Jvm.Cond.code ({ cls := "java/util/ArrayList", name := "<init>", desc := "()V" } : Jvm.MethodName) jdk_38_method_2_code (1 : Nat) (Option.none : Option Jvm.ClassFile.FieldType)).before args0 about1 = true := code_word (m := ⟨19, 0⟩) (meth := k19m0) (c := k19c0) (by decide +kernel) rfl rfl rfl (by decide +kernel)
set_option maxRecDepth 65536 in
theorem w_c10 : (Jvm.Cond.code ({ cls := "java/util/AbstractList", name := "<init>", desc := "()V" } : Jvm.MethodName) jdk_39_method_1_code (1 : Nat) (Option.none : Option Jvm.ClassFile.FieldType)).before args0 about1 = true := code_word (m := ⟨16, 0⟩) (meth := k16m0) (c := k16c0) (by decide +kernel) rfl rfl rfl (by decide +kernel)
set_option maxRecDepth 65536 in
theorem w_c11 : (Jvm.Cond.code ({ cls := "java/util/AbstractCollection", name := "<init>", desc := "()V" } : Jvm.MethodName) jdk_22_method_1_code (1 : Nat) (Option.none : Option Jvm.ClassFile.FieldType)).before args0 about1 = true := code_word (m := ⟨15, 0⟩) (meth := k15m0) (c := k15c0) (by decide +kernel) rfl rfl rfl (by decide +kernel)
set_option maxRecDepth 65536 in
theorem w_c12 : (Jvm.Cond.code ({ cls := "java/util/LinkedHashMap", name := "<init>", desc := "()V" } : Jvm.MethodName) jdk_94_method_16_code (1 : Nat) (Option.none : Option Jvm.ClassFile.FieldType)).before args0 about1 = true := code_word (m := ⟨24, 0⟩) (meth := k24m0) (c := k24c0) (by decide +kernel) rfl rfl rfl (by decide +kernel)
set_option maxRecDepth 65536 in
theorem w_c13 : (Jvm.Cond.code ({ cls := "java/util/HashMap", name := "<init>", desc := "()V" } : Jvm.MethodName) jdk_69_method_7_code (1 : Nat) (Option.none : Option Jvm.ClassFile.FieldType)).before args0 about1 = true := code_word (m := ⟨22, 0⟩) (meth := k22m0) (c := k22c0) (by decide +kernel) rfl rfl rfl (by decide +kernel)
set_option maxRecDepth 65536 in
theorem w_c14 : (Jvm.Cond.code ({ cls := "java/util/AbstractMap", name := "<init>", desc := "()V" } : Jvm.MethodName) jdk_71_method_1_code (1 : Nat) (Option.none : Option Jvm.ClassFile.FieldType)).before args0 about1 = true := code_word (m := ⟨21, 0⟩) (meth := k21m0) (c := k21c0) (by decide +kernel) rfl rfl rfl (by decide +kernel)
set_option maxRecDepth 65536 in
theorem w_c15 : (Jvm.Cond.code ({ cls := "java/util/Objects", name := "requireNonNull", desc := "(Ljava/lang/Object;Ljava/lang/String;)Ljava/lang/Object;" } : Jvm.MethodName) jdk_31_method_11_code (2 : Nat) (Option.some (Jvm.ClassFile.FieldType.object "java/lang/Object"))).before args0 about1 = true := code_word (m := ⟨25, 1⟩) (meth := k25m1) (c := k25c1) (by decide +kernel) rfl rfl rfl (by decide +kernel)
set_option maxRecDepth 65536 in
theorem w_c16 : (Jvm.Cond.code ({ cls := "com/example/montaje/montaje/beans/BeanDefinition", name := "getScope", desc := "()Ljava/lang/String;" } : Jvm.MethodName) prog_4_method_8_code (1 : Nat) (Option.some (Jvm.ClassFile.FieldType.object "java/lang/String"))).before args0 about1 = true := code_word (m := ⟨9, 1⟩) (meth := k9m1) (c := k9c1) (by decide +kernel) rfl rfl rfl (by decide +kernel)
set_option maxRecDepth 65536 in
theorem w_c17 : (Jvm.Cond.code ({ cls := "java/lang/String", name := "equals", desc := "(Ljava/lang/Object;)Z" } : Jvm.MethodName) jdk_42_method_66_code (3 : Nat) (Option.some Jvm.ClassFile.FieldType.boolean)).before args0 about1 = true := code_word (m := ⟨7, 2⟩) (meth := k7m2) (c := k7c2) (by decide +kernel) rfl rfl rfl (by decide +kernel)
set_option maxRecDepth 65536 in
theorem w_c18 : (Jvm.Cond.code ({ cls := "com/example/montaje/montaje/beans/BeanDefinition", name := "isSingleton", desc := "()Z" } : Jvm.MethodName) prog_4_method_30_code (1 : Nat) (Option.some Jvm.ClassFile.FieldType.boolean)).before args0 about1 = true := code_word (m := ⟨9, 3⟩) (meth := k9m3) (c := k9c3) (by decide +kernel) rfl rfl rfl (by decide +kernel)
set_option maxRecDepth 65536 in
theorem w_c19 : (Jvm.Cond.code ({ cls := "com/example/montaje/montaje/beans/BeanDefinition", name := "setScope", desc := "(Ljava/lang/String;)V" } : Jvm.MethodName) prog_4_method_9_code (2 : Nat) (Option.none : Option Jvm.ClassFile.FieldType)).before args0 about1 = true := code_word (m := ⟨9, 2⟩) (meth := k9m2) (c := k9c2) (by decide +kernel) rfl rfl rfl (by decide +kernel)
set_option maxRecDepth 65536 in
theorem w_c20 : (Jvm.Cond.code ({ cls := "java/lang/StringLatin1", name := "equals", desc := "([B[B)Z" } : Jvm.MethodName) jdk_43_method_13_code (3 : Nat) (Option.some Jvm.ClassFile.FieldType.boolean)).before args0 about1 = true := code_word (m := ⟨26, 1⟩) (meth := k26m1) (c := k26c1) (by decide +kernel) rfl rfl rfl (by decide +kernel)
def codes1 : List Jvm.Cond := [Jvm.Cond.code x code maxLocals ret, Jvm.Cond.code ({ cls := "java/lang/String", name := "<init>", desc := "([C)V" } : Jvm.MethodName) jdk_42_method_3_code (2 : Nat) (Option.none : Option Jvm.ClassFile.FieldType), Jvm.Cond.code ({ cls := "java/lang/String", name := "<init>", desc := "([CIILjava/lang/Void;)V" } : Jvm.MethodName) jdk_42_method_149_code (6 : Nat) (Option.none : Option Jvm.ClassFile.FieldType), Jvm.Cond.code ({ cls := "java/lang/Object", name := "<init>", desc := "()V" } : Jvm.MethodName) object_method_1_code (1 : Nat) (Option.none : Option Jvm.ClassFile.FieldType), Jvm.Cond.code ({ cls := "java/lang/StringUTF16", name := "compress", desc := "([CII)[B" } : Jvm.MethodName) jdk_52_method_16_code (6 : Nat) (Option.some (Jvm.ClassFile.FieldType.array Jvm.ClassFile.FieldType.byte)), Jvm.Cond.code ({ cls := "java/lang/StringUTF16", name := "compress", desc := "([CI[BII)I" } : Jvm.MethodName) jdk_52_method_21_code (7 : Nat) (Option.some Jvm.ClassFile.FieldType.int), Jvm.Cond.code ({ cls := "java/lang/StringUTF16", name := "coderFromArrayLen", desc := "([BI)B" } : Jvm.MethodName) jdk_52_method_15_code (2 : Nat) (Option.some Jvm.ClassFile.FieldType.byte), Jvm.Cond.code ({ cls := "com/example/montaje/montaje/beans/BeanDefinition", name := "<init>", desc := "(Ljava/lang/String;Ljava/lang/String;)V" } : Jvm.MethodName) prog_4_method_1_code (3 : Nat) (Option.none : Option Jvm.ClassFile.FieldType), Jvm.Cond.code ({ cls := "java/util/List", name := "of", desc := "()Ljava/util/List;" } : Jvm.MethodName) jdk_40_method_36_code (0 : Nat) (Option.some (Jvm.ClassFile.FieldType.object "java/util/List")), Jvm.Cond.code ({ cls := "java/util/ArrayList", name := "<init>", desc := "()V" } : Jvm.MethodName) jdk_38_method_2_code (1 : Nat) (Option.none : Option Jvm.ClassFile.FieldType), Jvm.Cond.code ({ cls := "java/util/AbstractList", name := "<init>", desc := "()V" } : Jvm.MethodName) jdk_39_method_1_code (1 : Nat) (Option.none : Option Jvm.ClassFile.FieldType), Jvm.Cond.code ({ cls := "java/util/AbstractCollection", name := "<init>", desc := "()V" } : Jvm.MethodName) jdk_22_method_1_code (1 : Nat) (Option.none : Option Jvm.ClassFile.FieldType), Jvm.Cond.code ({ cls := "java/util/LinkedHashMap", name := "<init>", desc := "()V" } : Jvm.MethodName) jdk_94_method_16_code (1 : Nat) (Option.none : Option Jvm.ClassFile.FieldType), Jvm.Cond.code ({ cls := "java/util/HashMap", name := "<init>", desc := "()V" } : Jvm.MethodName) jdk_69_method_7_code (1 : Nat) (Option.none : Option Jvm.ClassFile.FieldType), Jvm.Cond.code ({ cls := "java/util/AbstractMap", name := "<init>", desc := "()V" } : Jvm.MethodName) jdk_71_method_1_code (1 : Nat) (Option.none : Option Jvm.ClassFile.FieldType), Jvm.Cond.code ({ cls := "java/util/Objects", name := "requireNonNull", desc := "(Ljava/lang/Object;Ljava/lang/String;)Ljava/lang/Object;" } : Jvm.MethodName) jdk_31_method_11_code (2 : Nat) (Option.some (Jvm.ClassFile.FieldType.object "java/lang/Object")), Jvm.Cond.code ({ cls := "com/example/montaje/montaje/beans/BeanDefinition", name := "getScope", desc := "()Ljava/lang/String;" } : Jvm.MethodName) prog_4_method_8_code (1 : Nat) (Option.some (Jvm.ClassFile.FieldType.object "java/lang/String")), Jvm.Cond.code ({ cls := "java/lang/String", name := "equals", desc := "(Ljava/lang/Object;)Z" } : Jvm.MethodName) jdk_42_method_66_code (3 : Nat) (Option.some Jvm.ClassFile.FieldType.boolean), Jvm.Cond.code ({ cls := "com/example/montaje/montaje/beans/BeanDefinition", name := "isSingleton", desc := "()Z" } : Jvm.MethodName) prog_4_method_30_code (1 : Nat) (Option.some Jvm.ClassFile.FieldType.boolean), Jvm.Cond.code ({ cls := "com/example/montaje/montaje/beans/BeanDefinition", name := "setScope", desc := "(Ljava/lang/String;)V" } : Jvm.MethodName) prog_4_method_9_code (2 : Nat) (Option.none : Option Jvm.ClassFile.FieldType), Jvm.Cond.code ({ cls := "java/lang/StringLatin1", name := "equals", desc := "([B[B)Z" } : Jvm.MethodName) jdk_43_method_13_code (3 : Nat) (Option.some Jvm.ClassFile.FieldType.boolean)]
set_option maxRecDepth 65536 in
theorem codes_eq : words1.filter isCode = codes1 := rfl
theorem w_codes : ∀ c ∈ words1.filter isCode, c.before args0 about1 = true := by
  rw [codes_eq]
  intro c hc
  simp only [codes1, List.mem_cons, List.not_mem_nil, or_false] at hc
  rcases hc with rfl | rfl | rfl | rfl | rfl | rfl | rfl | rfl | rfl | rfl | rfl | rfl | rfl | rfl | rfl | rfl | rfl | rfl | rfl | rfl | rfl
  · exact w_c0
  · exact w_c1
  · exact w_c2
  · exact w_c3
  · exact w_c4
  · exact w_c5
  · exact w_c6
  · exact w_c7
  · exact w_c8
  · exact w_c9
  · exact w_c10
  · exact w_c11
  · exact w_c12
  · exact w_c13
  · exact w_c14
  · exact w_c15
  · exact w_c16
  · exact w_c17
  · exact w_c18
  · exact w_c19
  · exact w_c20
set_option maxRecDepth 65536 in
theorem w_t1 : (words1.take 24).all (fun c => isCode c || c.before args0 about1) = true := by decide +kernel
set_option maxRecDepth 65536 in
theorem w_t2 : ((words1.drop 24).take 24).all (fun c => isCode c || c.before args0 about1) = true := by decide +kernel
set_option maxRecDepth 65536 in
theorem w_t3 : (((words1.drop 24).drop 24).take 24).all (fun c => isCode c || c.before args0 about1) = true := by decide +kernel
set_option maxRecDepth 65536 in
theorem w_t4 : ((((words1.drop 24).drop 24).drop 24).take 24).all (fun c => isCode c || c.before args0 about1) = true := by decide +kernel
set_option maxRecDepth 65536 in
theorem w_t5 : (((((words1.drop 24).drop 24).drop 24).drop 24).take 24).all (fun c => isCode c || c.before args0 about1) = true := by decide +kernel
set_option maxRecDepth 65536 in
theorem w_t6 : ((((((words1.drop 24).drop 24).drop 24).drop 24).drop 24).take 24).all (fun c => isCode c || c.before args0 about1) = true := by decide +kernel
set_option maxRecDepth 65536 in
theorem w_t7 : ((((((words1.drop 24).drop 24).drop 24).drop 24).drop 24).drop 24).all (fun c => isCode c || c.before args0 about1) = true := by decide +kernel
theorem w_tables : (allAtoms (Jvm.Cond.code x code maxLocals ret :: tables_1)).before args0 about1 = true := by
  rw [allAtoms_all]
  show words1.all (fun c => c.before args0 about1) = true
  refine all_split ?_ w_codes
  rw [← List.take_append_drop 24 words1, List.all_append, w_t1, ← List.take_append_drop 24 (words1.drop 24), List.all_append, w_t2, ← List.take_append_drop 24 ((words1.drop 24).drop 24), List.all_append, w_t3, ← List.take_append_drop 24 (((words1.drop 24).drop 24).drop 24), List.all_append, w_t4, ← List.take_append_drop 24 ((((words1.drop 24).drop 24).drop 24).drop 24), List.all_append, w_t5, ← List.take_append_drop 24 (((((words1.drop 24).drop 24).drop 24).drop 24).drop 24), List.all_append, w_t6, w_t7]
  rfl
set_option maxRecDepth 65536 in
theorem w_rest : rest_1_c.before args0 about1 = true := by decide +kernel
set_option maxRecDepth 65536 in
theorem w_case : (Jvm.Cond.and given_1 narrow_1).before args0 about1 = true := by decide +kernel
set_option maxRecDepth 65536 in
theorem w_consts : constsHeld consts_1 about1 := Jvm.Lit.constsHeldB_iff.mp (by decide +kernel)
theorem w_applies : (headSpec (Jvm.Cond.code x code maxLocals ret :: tables_1) room_1).applies x e0.platform about1 = true :=
  (Spec.applies_iff w_frames).mpr ⟨w_running, w_runnable, w_alone, w_named, w_hears, w_ripe, w_room, w_tables⟩
theorem atStart : AtStart classFile x code maxLocals ret World_1 tables_1 room_1 Calls_1 rest_1 Pre_1 launch0 p0 e0 about1 theMethod args0 below0 :=
  ⟨lists_1, trivial, launch0.admits_env _ _ _, launch0.least_env, fairChoices_fair.cas, fairChoices_fair.clock, w_frames, w_args, w_heap, w_applies, ⟨w_consts, trivial⟩, w_rest, w_case⟩
end start1
theorem witness_1 : WitnessClaimed_1 := ⟨start1.p0, start1.e0, start1.about1, start1.theMethod, start1.args0, start1.below0, start1.atStart⟩
end Jvm.Pilot.@@N@@
