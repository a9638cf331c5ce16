import JvmDerived
import JvmDerived.Pilot.@@N@@Statement
import JvmDerived.Pilot.@@N@@Code
set_option linter.unusedVariables false
set_option linter.unusedSimpArgs false
namespace Jvm.Wk
open Jvm Jvm.ClassFile Sem Op Lib Bundle Jvm.Free Jvm.Stand Jvm.LawKit Jvm.RoadKit
abbrev Fd : Type := String × String × String × Value
abbrev Desc : Type := (String × List Fd) ⊕ (String × FieldType × List Value)
abbrev Ent : Type := Addr × Bool × Desc
def sl (Z : State) (f : Fd) : Nat := Jvm.RoadKit.slotOf Z f.1 f.2.1 f.2.2.1
def Dist (Z : State) : Desc → Prop
  | .inl (_, fs) => (fs.map (sl Z)).Pairwise (fun x y => x ≠ y)
  | .inr _ => True
def Sat (Z : State) (h : Heap) (a : Addr) : Desc → Prop
  | .inl (C, fs) => Exa Z h a C ∧ ∀ f ∈ fs, Fld Z h a f.1 f.2.1 f.2.2.1 f.2.2.2
  | .inr (ad, ty, vs) => ∃ c : Cell, Arr Z h a c ty ∧ c.slots = vs.toArray ∧ vs.length < 2147483648 ∧ (∀ v ∈ vs, fits ty v = true) ∧ (ad ≠ "" → Exa Z h a ad)
def Apart (x y : Ent) : Prop := (x.2.1 = true ∨ y.2.1 = true) → x.1 ≠ y.1
def Hp (Z : State) (EL : Bool × List (String × Nat)) (D : List Ent) (vm : Vm) (h : Heap) : Prop :=
  Ext Z.heap h ∧ CHv Z EL.2 vm h ∧ (∀ x ∈ D, Sat Z h x.1 x.2.2 ∧ (x.2.1 = true → Z.heap.size ≤ x.1 ∧ Safe Z EL.2 vm h x.1 ∧ Dist Z x.2.2)) ∧ D.Pairwise Apart
section Facts
variable {Z : State} {EL : Bool × List (String × Nat)} {D D' : List Ent} {vm vm1 : Vm} {h h' : Heap} {a b : Addr} {d d' : Desc} {s1 : Nat} {v : Value} {x y : Ent}
theorem Sat.ext (E : Ext h h') (S : Sat Z h a d) : Sat Z h' a d := by
  match d, S with
  | .inl (C, fs), S => exact ⟨S.1.ext E, fun f hf => (S.2 f hf).ext E⟩
  | .inr (ad, ty, vs), S => obtain ⟨c, A, r1, r2, r3, r4⟩ := S; exact ⟨c, A.ext E, r1, r2, r3, fun q => (r4 q).ext E⟩
theorem Sat.keep {ws : List Addr} (K : Keep h h' ws) (q : a ∉ ws) (S : Sat Z h a d) : Sat Z h' a d := by
  match d, S with
  | .inl (C, fs), S => exact ⟨S.1.keep K, fun f hf => (S.2 f hf).keep K q⟩
  | .inr (ad, ty, vs), S => obtain ⟨c, A, r1, r2, r3, r4⟩ := S; exact ⟨c, ⟨K.2.1 _ _ A.1 q, A.2⟩, r1, r2, r3, fun q => (r4 q).keep K⟩
theorem Sat.lt (S : Sat Z h a d) : a < h.size := by
  match d, S with
  | .inl (C, fs), S => exact S.1.lt
  | .inr (ad, ty, vs), S => obtain ⟨c, A, -⟩ := S; exact A.lt
theorem Apart.symm (q : Apart x y) : Apart y x := fun r e => q r.symm e.symm
theorem Hp.perm (P : D.Perm D') (H : Hp Z EL D vm h) : Hp Z EL D' vm h :=
  ⟨H.1, H.2.1, fun x hx => H.2.2.1 x (P.mem_iff.mpr hx), (P.pairwise_iff (fun q => Apart.symm q)).mp H.2.2.2⟩
theorem perm_front {α : Type} : ∀ (D : List α) (i : Nat) (x : α), D[i]? = some x → D.Perm (x :: D.eraseIdx i)
  | [], _, _, q => by simp at q
  | y :: D, 0, x, q => by simp at q; subst q; exact List.Perm.refl _
  | y :: D, i + 1, x, q => by
    have q' : D[i]? = some x := by simpa using q
    exact ((perm_front D i x q').cons y).trans (List.Perm.swap x y _)
theorem perm_set {α : Type} : ∀ (D : List α) (i : Nat) (x x' : α), D[i]? = some x → (D.set i x').Perm (x' :: D.eraseIdx i)
  | [], _, _, _, q => by simp at q
  | y :: D, 0, x, x', q => List.Perm.refl _
  | y :: D, i + 1, x, x', q => by
    have q' : D[i]? = some x := by simpa using q
    exact ((perm_set D i x x' q').cons y).trans (List.Perm.swap x' y _)
theorem Hp.new (H : Hp Z EL D vm h) (E : Ext h h') (S : Sat Z h' h.size d) (dd : Dist Z d) : Hp Z EL ((h.size, true, d) :: D) vm h' := by
  obtain ⟨h1, h2, h3, h4⟩ := H
  refine ⟨⟨Nat.le_trans h1.1 E.1, fun a c q => E.2 _ _ (h1.2 _ _ q)⟩, h2.ext E, fun x hx => ?_, List.pairwise_cons.mpr ⟨fun y hy _ => ?_, h4⟩⟩
  · rcases List.mem_cons.mp hx with rfl | hx
    · exact ⟨S, fun _ => ⟨h1.1, Safe.ext E h2 (Safe.new (Nat.le_refl _)), dd⟩⟩
    · exact ⟨(h3 x hx).1.ext E, fun w => ⟨((h3 x hx).2 w).1, Safe.ext E h2 ((h3 x hx).2 w).2.1, ((h3 x hx).2 w).2.2⟩⟩
  · have := (h3 y hy).1.lt
    exact fun e => by rw [← e] at this; exact Nat.lt_irrefl _ this
theorem Hp.keepHead (H : Hp Z EL ((a, true, d) :: D) vm h) (K : Keep h h' [a]) (S : Sat Z h' a d') (dd : Dist Z d') : Hp Z EL ((a, true, d') :: D) vm h' := by
  obtain ⟨h1, h2, h3, h4⟩ := H
  obtain ⟨g1, g2, -⟩ := (h3 _ (List.mem_cons_self ..)).2 rfl
  have hs : ∀ x ∈ [a], Safe Z EL.2 vm h x := fun x hx => by cases List.mem_singleton.mp hx; exact g2
  obtain ⟨p1, p2⟩ := List.pairwise_cons.mp h4
  refine ⟨⟨Nat.le_trans h1.1 K.1, fun b c q => K.2.1 _ _ (h1.2 _ _ q) fun z => ?_⟩, h2.keep K hs, fun x hx => ?_, List.pairwise_cons.mpr ⟨fun y hy r => p1 y hy (Or.inl rfl), p2⟩⟩
  · cases List.mem_singleton.mp z
    exact Nat.lt_irrefl _ (Nat.lt_of_lt_of_le (Array.getElem?_eq_some_iff.mp q).1 g1)
  · rcases List.mem_cons.mp hx with rfl | hx
    · exact ⟨S, fun _ => ⟨g1, Safe.keep K hs h2 g2, dd⟩⟩
    · have ne : x.1 ∉ [a] := fun z => p1 x hx (Or.inl rfl) (List.mem_singleton.mp z).symm
      have hx' := h3 x (List.mem_cons_of_mem _ hx)
      exact ⟨hx'.1.keep K ne, fun w => ⟨(hx'.2 w).1, Safe.keep K hs h2 (hx'.2 w).2.1, (hx'.2 w).2.2⟩⟩
theorem Hp.keepSet {i : Nat} (H : Hp Z EL D vm h) (hi : D[i]? = some (a, true, d)) (K : Keep h h' [a]) (S : Sat Z h' a d') (dd : Dist Z d') : Hp Z EL (D.set i (a, true, d')) vm h' :=
  ((H.perm (perm_front D i _ hi)).keepHead K S dd).perm (perm_set D i _ _ hi).symm
theorem Hp.toVm (H : Hp Z EL D vm h) (C : CHr Z EL.2 vm h vm1 h) : Hp Z EL D vm1 h :=
  ⟨H.1, C.1, fun x hx => ⟨(H.2.2.1 x hx).1, fun w => ⟨((H.2.2.1 x hx).2 w).1, C.safe (H.2.2.1 x hx).1.lt ((H.2.2.1 x hx).2 w).2.1, ((H.2.2.1 x hx).2 w).2.2⟩⟩, H.2.2.2⟩
theorem Hp.sub (H : Hp Z EL D vm h) (q : D'.Sublist D) : Hp Z EL D' vm h := ⟨H.1, H.2.1, fun x hx => H.2.2.1 x (q.subset hx), H.2.2.2.sublist q⟩
theorem Hp.grown (H : Hp Z EL D vm h) (E : Ext h h') (C : CHr Z EL.2 vm h vm1 h') : Hp Z EL D vm1 h' :=
  ⟨⟨Nat.le_trans H.1.1 E.1, fun a c q => E.2 _ _ (H.1.2 _ _ q)⟩, C.1, fun x hx => ⟨(H.2.2.1 x hx).1.ext E, fun w => ⟨((H.2.2.1 x hx).2 w).1, C.safe (H.2.2.1 x hx).1.lt ((H.2.2.1 x hx).2 w).2.1, ((H.2.2.1 x hx).2 w).2.2⟩⟩, H.2.2.2⟩
theorem Hp.read (H : Hp Z EL D vm h) (S : Sat Z h a d) (ne : ∀ x, Safe Z EL.2 vm h x → Z.heap.size ≤ x → x ≠ a) : Hp Z EL ((a, false, d) :: D) vm h := by
  refine ⟨H.1, H.2.1, fun x hx => ?_, List.pairwise_cons.mpr ⟨fun y hy r e => ?_, H.2.2.2⟩⟩
  · rcases List.mem_cons.mp hx with rfl | hx
    · exact ⟨S, fun w => by cases w⟩
    · exact H.2.2.1 x hx
  · rcases r with r | r
    · cases r
    · exact ne y.1 ((H.2.2.1 y hy).2 r).2.1 ((H.2.2.1 y hy).2 r).1 e.symm
theorem Sat.arv {ad : String} {ty : FieldType} {vs : List Value} (dv : Value) (S : Sat Z h a (.inr (ad, ty, vs))) : ∃ k, Arv Z h a k ty (Nat.toInt32 vs.length) vs dv := by
  obtain ⟨c, A, r1, r2, r3, r4⟩ := S
  have e1 : (Nat.toInt32 vs.length).toInt = vs.length := len_toInt r2
  have e2 : (Nat.toInt32 vs.length).toNatClampNeg = vs.length := by simp [Int32.toNatClampNeg, e1]
  refine ⟨c.cls, c, A, rfl, by rw [e2, r1]; simp, fun q => ?_, fun k hk => ?_, fun i hi => ?_⟩
  · rw [Int32.lt_iff_toInt_lt, e1] at q
    have : (0 : Int32).toInt = 0 := rfl
    omega
  · rw [r1] at hk ⊢
    have hk' : k < vs.length := by simpa using hk
    simp [hk']
  · rw [r1] at hi
    have hi' : i < vs.length := by simpa using hi
    have : vs.getD i dv = vs[i] := by simp [hi']
    rw [this]; exact r3 _ (List.getElem_mem hi')
theorem Sat.of_arv {ad : String} {ty : FieldType} {vs : List Value} {k : ClassId} {z : Int32} {dv : Value} (A : Arv Z h a k ty z vs dv) (hl : z.toNatClampNeg = vs.length) (hE : ad ≠ "" → Exa Z h a ad) : Sat Z h a (.inr (ad, ty, vs)) := by
  obtain ⟨c, A, r1, r2, r3, r4, r5⟩ := A
  have hs : c.slots.size = vs.length := r2.trans hl
  refine ⟨c, A, ?_, ?_, fun v hv => ?_, hE⟩
  · apply Array.ext_getElem?
    intro i
    by_cases hi : i < vs.length
    · rw [r4 i (by omega)]; simp [hi]
    · rw [Array.getElem?_eq_none (by omega), Array.getElem?_eq_none (by simpa using Nat.le_of_not_lt hi)]
  · have := (back32 r3).2; omega
  · obtain ⟨i, hi, rfl⟩ := List.mem_iff_getElem.mp hv
    have := r5 i (by omega)
    simpa [hi] using this
end Facts
def Idx (j : Int32) (i : Nat) : Prop := ¬ j < 0 ∧ j.toNatClampNeg = i
theorem Idx.of_nat {i : Nat} (hi : i < 2147483648) : Idx (Nat.toInt32 i) i := by
  have e1 : (Nat.toInt32 i).toInt = i := len_toInt hi
  refine ⟨fun q => ?_, by simp [Int32.toNatClampNeg, e1]⟩
  rw [Int32.lt_iff_toInt_lt, e1] at q
  have : (0 : Int32).toInt = 0 := rfl
  omega
theorem Idx.toInt {j : Int32} {i : Nat} (q : Idx j i) : j.toInt = i := by
  have h1 : ¬ j.toInt < 0 := fun r => q.1 (by rw [Int32.lt_iff_toInt_lt]; exact r)
  have h2 := q.2
  simp only [Int32.toNatClampNeg] at h2
  omega
end Jvm.Wk
namespace Jvm.Wk
open Jvm Jvm.ClassFile Sem Op Lib Bundle Jvm.Free Jvm.Stand Jvm.LawKit Jvm.RoadKit
def ELok (Z : State) (EL : Bool × List (String × Nat)) : Prop := (∃ a0, EW Z a0 EL.2) ∧ (EL.1 = true → EL.2 = [])
def Res (Z : State) (EL : Bool × List (String × Nat)) (Q : Option Value → List Ent → Prop) (R : Room) (s : State) (o : Outcome) (t : State) : Prop :=
  ∃ v L, o = .returned v ∧ Fr Z.heap.size L ∧ (∃ D', Hp Z EL D' t.vm t.heap ∧ Q v D') ∧ ReturnedEndW s o t L R.cells R.slots ∧ (EL.1 = true → s.WarmedH t.vm)
def Here (Z : State) (EL : Bool × List (String × Nat)) (R : Room) (own nm : String) (bytes : ByteArray) (ml : Nat) (ret : Option FieldType) (D : List Ent) (k n : Nat)
    (p : Program) (l : Launch) (e : Env) (s : State) (m : MethodId) (args : Array Value) (below : List Frame) (meth : Method) (c : Code) (T : State) (vm0 : Vm) (k0 : Nat) (locs : List Loc) (cells slots : Nat) : Prop :=
  Stand p l e R (s.setVm vm0) m args below meth c T locs cells slots ∧ s.Since vm0 k0 ∧ k0 ≤ T.heap.size ∧ p.tables.exec = Jvm.exec ∧ c.code = bytes ∧ c.maxLocals = ml ∧ vm0.findClass own = some m.cls ∧ Z.Warmed39 vm0 ∧
    meth.sig.returnType = ret ∧ meth.locks = false ∧ meth.name = nm ∧ Fr Z.heap.size locs ∧ Hp Z EL D vm0 T.heap ∧ cells ≤ k ∧ slots ≤ n ∧ ELok Z EL ∧ (EL.1 = true → vm0 = s.vm)
def W (Z : State) (EL : Bool × List (String × Nat)) (R : Room) (own nm : String) (bytes : ByteArray) (ml : Nat) (ret : Option FieldType) (Q : Option Value → List Ent → Prop) (D : List Ent) (k n : Nat) (pc : Nat) (ls : Array Slot) (st : List Value) : Prop :=
  ∀ p l e s m args below meth c T vm0 k0 locs cells slots, Here Z EL R own nm bytes ml ret D k n p l e s m args below meth c T vm0 k0 locs cells slots →
    ∃ s₂ o, Steps p.tables e below (T.setTop (mkF m pc ls st)) s₂ ∧ s₂.status = .running ∧ Ended s₂ below o ∧ Res Z EL Q R s o s₂
def Con (Z : State) (EL : Bool × List (String × Nat)) (y : MethodName) (bytes : ByteArray) (maxL : Nat) (ret : Option FieldType) (rm : Room) (as : List Value) (D : List Ent) (Q : Option Value → List Ent → Prop) : Prop :=
  ELok Z EL → ∀ (l : Launch) (ws : List Cond), MetFree l y (head1 (Cond.code y bytes maxL ret :: ws) rm) (fun a U => a = as.toArray ∧ Z.Warmed39 U.vm ∧ Hp Z EL D U.vm U.heap) (fun _ _ _ _ _ => True) (fun _ U o U' => Res Z EL Q rm U o U')
theorem ld0 : Jvm.Sym.laidSlots [] = [] := rfl
theorem ld1 {v : Value} {vs : List Value} {L : List Slot} (h : v.category = 1) (e : Jvm.Sym.laidSlots vs = L) : Jvm.Sym.laidSlots (v :: vs) = .val v :: L := by simp [Jvm.Sym.laidSlots, h, e]
theorem hent_of {as : List Value} {L : List Slot} {ml : Nat} {ls : Array Slot} (e : Jvm.Sym.laidSlots as = L) (h : L ++ List.replicate (ml - L.length) .unset = ls.toList) : Jvm.Sym.laidSlots as ++ List.replicate (ml - (Jvm.Sym.laidSlots as).length) .unset = ls.toList := by rw [e]; exact h
section Walk
variable {Z : State} {EL : Bool × List (String × Nat)} {R : Room} {own nm : String} {bytes : ByteArray} {ml : Nat} {ret : Option FieldType} {Q : Option Value → List Ent → Prop} {D D' : List Ent} {k n pc : Nat} {ls ls' : Array Slot} {st : List Value} {a0 : Array Value}
theorem Con.of {y : MethodName} {as : List Value} (hpl : plainFor y = true) (hent : Jvm.Sym.laidSlots as ++ List.replicate (ml - (Jvm.Sym.laidSlots as).length) .unset = ls.toList) (hW : W Z EL R y.cls y.name bytes ml ret Q D 0 0 0 ls []) : Con Z EL y bytes ml ret R as D Q := by
  intro hE l ws
  refine MetFree.of_bodySF hpl hisR ?_
  intro p e s m args below meth c s₁ Bd hml0 hP hK
  obtain ⟨rfl, hZ, hh⟩ := hP
  have X0 : Stand p l e R s m as.toArray below meth c s₁ [] 0 0 := Stand.of_body Bd
  have e0 : s₁.heap = s.heap := by rw [Bd.state]; rfl
  have hown : s.vm.findClass y.cls = some m.cls := findClass_of_methodNamed Bd.named
  have hnm := (name_of_methodNamed Bd.named Bd.method).1
  obtain ⟨s₂, o, h1, r⟩ := hW p l e s m as.toArray below meth c s₁ s.vm 0 [] 0 0
    ⟨X0, (State.WarmedH.refl s).since 0, Nat.zero_le _, Bd.exec, Bd.bytes, hml0, hown, hZ, Bd.returns, Bd.notSynchronized, hnm, Fr.nil _, by rw [e0]; exact hh, Nat.le_refl _, Nat.le_refl _, hE, fun _ => rfl⟩
  exact ⟨s₂, o, (XT.entry (by simpa using hent)).trans h1, r⟩
theorem W.pure {pc' : Nat} {st' : List Value} (H : ∀ {p : Program} {e : Env} {below : List Frame} {T target : State} {m : MethodId} {c : Code}, At T m c below → p.tables.exec = Jvm.exec → c.code = bytes → Steps p.tables e below (T.setTop (mkF m pc' ls' st')) target → Steps p.tables e below (T.setTop (mkF m pc ls st)) target)
    (next : W Z EL R own nm bytes ml ret Q D k n pc' ls' st') : W Z EL R own nm bytes ml ret Q D k n pc ls st := by
  intro p l e s m args below meth c T vm0 k0 locs cells slots A
  obtain ⟨s₂, o, h1, r⟩ := next p l e s m args below meth c T vm0 k0 locs cells slots A
  exact ⟨s₂, o, H A.1.here A.2.2.2.1 A.2.2.2.2.1 h1, r⟩
theorem W.mono {k' n' : Nat} (hk : k ≤ k') (hn : n ≤ n') (next : W Z EL R own nm bytes ml ret Q D k' n' pc ls st) : W Z EL R own nm bytes ml ret Q D k n pc ls st := by
  intro p l e s m args below meth c T vm0 k0 locs cells slots A
  obtain ⟨X, hS, hk0, hx, hby, hml, hown, hZ, r1, r2, r3, hN, hH, hc, hl, hE, hNI⟩ := A
  exact next p l e s m args below meth c T vm0 k0 locs cells slots ⟨X, hS, hk0, hx, hby, hml, hown, hZ, r1, r2, r3, hN, hH, Nat.le_trans hc hk, Nat.le_trans hl hn, hE, hNI⟩
theorem W.heap (H : ∀ vm h, Hp Z EL D vm h → Hp Z EL D' vm h) (next : W Z EL R own nm bytes ml ret Q D' k n pc ls st) : W Z EL R own nm bytes ml ret Q D k n pc ls st := by
  intro p l e s m args below meth c T vm0 k0 locs cells slots A
  obtain ⟨X, hS, hk0, hx, hby, hml, hown, hZ, r1, r2, r3, hN, hH, hc, hl, hE, hNI⟩ := A
  exact next p l e s m args below meth c T vm0 k0 locs cells slots ⟨X, hS, hk0, hx, hby, hml, hown, hZ, r1, r2, r3, hN, H _ _ hH, hc, hl, hE, hNI⟩
theorem W.perm (P : D.Perm D') (next : W Z EL R own nm bytes ml ret Q D' k n pc ls st) : W Z EL R own nm bytes ml ret Q D k n pc ls st := W.heap (fun _ _ H => H.perm P) next
theorem W.front (i : Nat) {x : Ent} (hi : D[i]? = some x) (hD : x :: D.eraseIdx i = D') (next : W Z EL R own nm bytes ml ret Q D' k n pc ls st) : W Z EL R own nm bytes ml ret Q D k n pc ls st := W.perm (hD ▸ perm_front D i x hi) next
theorem W.aload (i : Nat) {v : Value} (hd : decode bytes pc = .ok (.aload i, 2)) (hl : ls[i]? = some (.val v)) (hv : v.isRef = true) (next : W Z EL R own nm bytes ml ret Q D k n (pc + 2) ls (v :: st)) : W Z EL R own nm bytes ml ret Q D k n pc ls st :=
  W.pure (fun h hx hc hr => XS.aload (g := mkF _ pc ls st) h hx rfl (hb hc hd) hl hv hr) next
theorem W.aloadN {i : Fin 4} {v : Value} (hd : decode bytes pc = .ok (.aload_n i, 1)) (hl : ls[i.val]? = some (.val v)) (hv : v.isRef = true) (next : W Z EL R own nm bytes ml ret Q D k n (pc + 1) ls (v :: st)) : W Z EL R own nm bytes ml ret Q D k n pc ls st :=
  W.pure (fun h hx hc hr => XS.aloadN (g := mkF _ pc ls st) h hx rfl (hb hc hd) hl hv hr) next
theorem W.iload {i : Nat} {v : Int32} (hd : decode bytes pc = .ok (.iload i, 2)) (hl : ls[i]? = some (.val (.int v))) (next : W Z EL R own nm bytes ml ret Q D k n (pc + 2) ls (.int v :: st)) : W Z EL R own nm bytes ml ret Q D k n pc ls st :=
  W.pure (fun h hx hc hr => XS.iload (g := mkF _ pc ls st) h hx rfl (hb hc hd) hl hr) next
theorem W.iloadN {i : Fin 4} {v : Int32} (hd : decode bytes pc = .ok (.iload_n i, 1)) (hl : ls[i.val]? = some (.val (.int v))) (next : W Z EL R own nm bytes ml ret Q D k n (pc + 1) ls (.int v :: st)) : W Z EL R own nm bytes ml ret Q D k n pc ls st :=
  W.pure (fun h hx hc hr => XS.iloadN (g := mkF _ pc ls st) h hx rfl (hb hc hd) hl hr) next
theorem W.astore {i : Nat} {v : Value} (hd : decode bytes pc = .ok (.astore i, 2)) (hv : v.isRef = true) (hl : storeLocals ls i v = some ls') (next : W Z EL R own nm bytes ml ret Q D k n (pc + 2) ls' st) : W Z EL R own nm bytes ml ret Q D k n pc ls (v :: st) :=
  W.pure (fun h hx hc hr => XS.astore (g := mkF _ pc ls (v :: st)) h hx rfl (hb hc hd) rfl hv hl hr) next
theorem W.astoreN {i : Fin 4} {v : Value} (hd : decode bytes pc = .ok (.astore_n i, 1)) (hv : v.isRef = true) (hl : storeLocals ls i.val v = some ls') (next : W Z EL R own nm bytes ml ret Q D k n (pc + 1) ls' st) : W Z EL R own nm bytes ml ret Q D k n pc ls (v :: st) :=
  W.pure (fun h hx hc hr => XS.astoreN (g := mkF _ pc ls (v :: st)) h hx rfl (hb hc hd) rfl hv hl hr) next
theorem W.istore {i : Nat} {v : Int32} (hd : decode bytes pc = .ok (.istore i, 2)) (hl : storeLocals ls i (.int v) = some ls') (next : W Z EL R own nm bytes ml ret Q D k n (pc + 2) ls' st) : W Z EL R own nm bytes ml ret Q D k n pc ls (.int v :: st) :=
  W.pure (fun h hx hc hr => XS.istore (g := mkF _ pc ls (.int v :: st)) h hx rfl (hb hc hd) rfl hl hr) next
theorem W.istoreN {i : Fin 4} {v : Int32} (hd : decode bytes pc = .ok (.istore_n i, 1)) (hl : storeLocals ls i.val (.int v) = some ls') (next : W Z EL R own nm bytes ml ret Q D k n (pc + 1) ls' st) : W Z EL R own nm bytes ml ret Q D k n pc ls (.int v :: st) :=
  W.pure (fun h hx hc hr => XS.istoreN (g := mkF _ pc ls (.int v :: st)) h hx rfl (hb hc hd) rfl hl hr) next
theorem W.iconst {i : Int} (v : Int32) (hd : decode bytes pc = .ok (.iconst i, 1)) (hv : Int32.ofInt i = v) (next : W Z EL R own nm bytes ml ret Q D k n (pc + 1) ls (.int v :: st)) : W Z EL R own nm bytes ml ret Q D k n pc ls st :=
  W.pure (fun h hx hc hr => XT.iconstV (g := mkF _ pc ls st) h hx rfl v (hb hc hd) hv hr) next
theorem W.bipush {i : Int} (v : Int32) (hd : decode bytes pc = .ok (.bipush i, 2)) (hv : (Int8.ofInt i).toInt32 = v) (next : W Z EL R own nm bytes ml ret Q D k n (pc + 2) ls (.int v :: st)) : W Z EL R own nm bytes ml ret Q D k n pc ls st :=
  W.pure (fun h hx hc hr => XT.bipushV (g := mkF _ pc ls st) h hx rfl v (hb hc hd) hv hr) next
theorem W.sipush {i : Int} (v : Int32) (hd : decode bytes pc = .ok (.sipush i, 3)) (hv : (Int16.ofInt i).toInt32 = v) (next : W Z EL R own nm bytes ml ret Q D k n (pc + 3) ls (.int v :: st)) : W Z EL R own nm bytes ml ret Q D k n pc ls st :=
  W.pure (fun h hx hc hr => XT.sipushV (g := mkF _ pc ls st) h hx rfl v (hb hc hd) hv hr) next
theorem W.aconstNull (hd : decode bytes pc = .ok (.aconst_null, 1)) (next : W Z EL R own nm bytes ml ret Q D k n (pc + 1) ls (.null :: st)) : W Z EL R own nm bytes ml ret Q D k n pc ls st :=
  W.pure (fun h hx hc hr => XS.aconstNull (g := mkF _ pc ls st) h hx rfl (hb hc hd) hr) next
theorem W.iinc {i : Nat} {cst : Int} {x : Int32} (v : Int32) (hd : decode bytes pc = .ok (.iinc i cst, 3)) (hv : Int32.ofInt cst = v) (hl : ls[i]? = some (.val (.int x))) (hl' : storeLocals ls i (.int (x + v)) = some ls') (next : W Z EL R own nm bytes ml ret Q D k n (pc + 3) ls' st) : W Z EL R own nm bytes ml ret Q D k n pc ls st :=
  W.pure (fun h hx hc hr => XT.iincV (g := mkF _ pc ls st) h hx rfl v (hb hc hd) hv hl hl' hr) next
theorem W.popv {x : Value} (hd : decode bytes pc = .ok (.pop, 1)) (hc1 : x.category = 1) (next : W Z EL R own nm bytes ml ret Q D k n (pc + 1) ls st) : W Z EL R own nm bytes ml ret Q D k n pc ls (x :: st) :=
  W.pure (fun h hx hc hr => XT.pop (g := mkF _ pc ls (x :: st)) h hx rfl (hb hc hd) rfl hc1 hr) next
theorem W.dup {x : Value} (hd : decode bytes pc = .ok (.dup, 1)) (hc1 : x.category = 1) (next : W Z EL R own nm bytes ml ret Q D k n (pc + 1) ls (x :: x :: st)) : W Z EL R own nm bytes ml ret Q D k n pc ls (x :: st) :=
  W.pure (fun h hx hc hr => XS.dup (g := mkF _ pc ls (x :: st)) h hx rfl (hb hc hd) rfl hc1 hr) next
theorem W.dupX1 {x y : Value} (hd : decode bytes pc = .ok (.dup_x1, 1)) (hc1 : x.category = 1) (hc2 : y.category = 1) (next : W Z EL R own nm bytes ml ret Q D k n (pc + 1) ls (x :: y :: x :: st)) : W Z EL R own nm bytes ml ret Q D k n pc ls (x :: y :: st) :=
  W.pure (fun h hx hc hr => XT.dupX1 (g := mkF _ pc ls (x :: y :: st)) h hx rfl (hb hc hd) rfl hc1 hc2 hr) next
theorem W.iadd {x y : Int32} (hd : decode bytes pc = .ok (.iadd, 1)) (next : W Z EL R own nm bytes ml ret Q D k n (pc + 1) ls (.int (x + y) :: st)) : W Z EL R own nm bytes ml ret Q D k n pc ls (.int y :: .int x :: st) :=
  W.pure (fun h hx hc hr => XS.iadd (g := mkF _ pc ls (.int y :: .int x :: st)) h hx rfl (hb hc hd) rfl hr) next
theorem W.isub {x y : Int32} (hd : decode bytes pc = .ok (.isub, 1)) (next : W Z EL R own nm bytes ml ret Q D k n (pc + 1) ls (.int (x - y) :: st)) : W Z EL R own nm bytes ml ret Q D k n pc ls (.int y :: .int x :: st) :=
  W.pure (fun h hx hc hr => XS.isub (g := mkF _ pc ls (.int y :: .int x :: st)) h hx rfl (hb hc hd) rfl hr) next
theorem W.iand {x y : Int32} (hd : decode bytes pc = .ok (.iand, 1)) (next : W Z EL R own nm bytes ml ret Q D k n (pc + 1) ls (.int (x &&& y) :: st)) : W Z EL R own nm bytes ml ret Q D k n pc ls (.int y :: .int x :: st) :=
  W.pure (fun h hx hc hr => XS.iand (g := mkF _ pc ls (.int y :: .int x :: st)) h hx rfl (hb hc hd) rfl hr) next
theorem W.ior {x y : Int32} (hd : decode bytes pc = .ok (.ior, 1)) (next : W Z EL R own nm bytes ml ret Q D k n (pc + 1) ls (.int (x ||| y) :: st)) : W Z EL R own nm bytes ml ret Q D k n pc ls (.int y :: .int x :: st) :=
  W.pure (fun h hx hc hr => XT.ior (g := mkF _ pc ls (.int y :: .int x :: st)) h hx rfl (hb hc hd) rfl hr) next
theorem W.ishl {x y : Int32} (hd : decode bytes pc = .ok (.ishl, 1)) (next : W Z EL R own nm bytes ml ret Q D k n (pc + 1) ls (.int (x <<< (y &&& 31)) :: st)) : W Z EL R own nm bytes ml ret Q D k n pc ls (.int y :: .int x :: st) :=
  W.pure (fun h hx hc hr => XT.ishl (g := mkF _ pc ls (.int y :: .int x :: st)) h hx rfl (hb hc hd) rfl hr) next
theorem W.ishr {x y : Int32} (hd : decode bytes pc = .ok (.ishr, 1)) (next : W Z EL R own nm bytes ml ret Q D k n (pc + 1) ls (.int (x >>> (y &&& 31)) :: st)) : W Z EL R own nm bytes ml ret Q D k n pc ls (.int y :: .int x :: st) :=
  W.pure (fun h hx hc hr => XT.ishr (g := mkF _ pc ls (.int y :: .int x :: st)) h hx rfl (hb hc hd) rfl hr) next
theorem W.iushr {x y : Int32} (hd : decode bytes pc = .ok (.iushr, 1)) (next : W Z EL R own nm bytes ml ret Q D k n (pc + 1) ls (.int (XT.ushr x y) :: st)) : W Z EL R own nm bytes ml ret Q D k n pc ls (.int y :: .int x :: st) :=
  W.pure (fun h hx hc hr => XT.iushr (g := mkF _ pc ls (.int y :: .int x :: st)) h hx rfl (hb hc hd) rfl hr) next
theorem W.i2b {x : Int32} (hd : decode bytes pc = .ok (.i2b, 1)) (next : W Z EL R own nm bytes ml ret Q D k n (pc + 1) ls (.int x.toInt8.toInt32 :: st)) : W Z EL R own nm bytes ml ret Q D k n pc ls (.int x :: st) :=
  W.pure (fun h hx hc hr => XT.i2b (g := mkF _ pc ls (.int x :: st)) h hx rfl (hb hc hd) rfl hr) next
theorem W.i2c {x : Int32} (hd : decode bytes pc = .ok (.i2c, 1)) (next : W Z EL R own nm bytes ml ret Q D k n (pc + 1) ls (.int x.toUInt32.toUInt16.toUInt32.toInt32 :: st)) : W Z EL R own nm bytes ml ret Q D k n pc ls (.int x :: st) :=
  W.pure (fun h hx hc hr => XT.i2c (g := mkF _ pc ls (.int x :: st)) h hx rfl (hb hc hd) rfl hr) next
theorem W.goto (pc' : Nat) {o : Int} (hd : decode bytes pc = .ok (.goto o, 3)) (ho : 0 ≤ (pc : Int) + o ∧ ((pc : Int) + o).toNat = pc') (next : W Z EL R own nm bytes ml ret Q D k n pc' ls st) : W Z EL R own nm bytes ml ret Q D k n pc ls st :=
  W.pure (fun h hx hc hr => XS.goto (g := mkF _ pc ls st) h hx rfl rfl (hb hc hd) ho.1 ho.2 hr) next
def Cd : ClassFile.Cond → Int32 → Int32 → Prop
  | .eq, x, y => x = y
  | .ne, x, y => ¬ x = y
  | .lt, x, y => x < y
  | .ge, x, y => ¬ x < y
  | .gt, x, y => y < x
  | .le, x, y => ¬ y < x
theorem Cd.yes {cd : ClassFile.Cond} {x y : Int32} (q : Cd cd x y) : if_icmp.holds cd x y = true := by
  cases cd <;> first | exact (teq q).1 | exact (feq q).2 | exact (tlt q).1 | exact (flt q).2.1 | exact (tlt q).2.2.1 | exact (flt q).2.2.2
theorem Cd.no {cd : ClassFile.Cond} {x y : Int32} (q : ¬ Cd cd x y) : if_icmp.holds cd x y = false := by
  cases cd <;> first | exact (feq q).1 | exact (teq (Classical.not_not.mp q)).2 | exact (flt q).1 | exact (tlt (Classical.not_not.mp q)).2.1 | exact (flt q).2.2.1 | exact (tlt (Classical.not_not.mp q)).2.2.2
theorem W.icmpY (pc' : Nat) {cd : ClassFile.Cond} {x y : Int32} {o : Int} (hd : decode bytes pc = .ok (.if_icmp cd o, 3)) (q : Cd cd x y) (ho : 0 ≤ (pc : Int) + o ∧ ((pc : Int) + o).toNat = pc') (next : W Z EL R own nm bytes ml ret Q D k n pc' ls st) : W Z EL R own nm bytes ml ret Q D k n pc ls (.int y :: .int x :: st) :=
  W.pure (fun h hx hc hr => XS.icmpYes (g := mkF _ pc ls (.int y :: .int x :: st)) h hx rfl rfl (hb hc hd) rfl q.yes ho.1 ho.2 hr) next
theorem W.icmpN {cd : ClassFile.Cond} {x y : Int32} {o : Int} (hd : decode bytes pc = .ok (.if_icmp cd o, 3)) (q : ¬ Cd cd x y) (next : W Z EL R own nm bytes ml ret Q D k n (pc + 3) ls st) : W Z EL R own nm bytes ml ret Q D k n pc ls (.int y :: .int x :: st) :=
  W.pure (fun h hx hc hr => XS.icmpNo (g := mkF _ pc ls (.int y :: .int x :: st)) h hx rfl (hb hc hd) rfl (Cd.no q) hr) next
theorem W.icmp (pc' : Nat) {cd : ClassFile.Cond} {x y : Int32} {o : Int} (hd : decode bytes pc = .ok (.if_icmp cd o, 3)) (ho : 0 ≤ (pc : Int) + o ∧ ((pc : Int) + o).toNat = pc') (nextY : Cd cd x y → W Z EL R own nm bytes ml ret Q D k n pc' ls st) (nextN : ¬ Cd cd x y → W Z EL R own nm bytes ml ret Q D k n (pc + 3) ls st) : W Z EL R own nm bytes ml ret Q D k n pc ls (.int y :: .int x :: st) := by
  by_cases q : Cd cd x y
  · exact W.icmpY pc' hd q ho (nextY q)
  · exact W.icmpN hd q (nextN q)
theorem W.ifY (pc' : Nat) {cd : ClassFile.Cond} {x : Int32} {o : Int} (hd : decode bytes pc = .ok (.ifCond cd o, 3)) (q : Cd cd x 0) (ho : 0 ≤ (pc : Int) + o ∧ ((pc : Int) + o).toNat = pc') (next : W Z EL R own nm bytes ml ret Q D k n pc' ls st) : W Z EL R own nm bytes ml ret Q D k n pc ls (.int x :: st) :=
  W.pure (fun h hx hc hr => XS.ifYes (g := mkF _ pc ls (.int x :: st)) h hx rfl rfl (hb hc hd) rfl ((if0 _ _).trans q.yes) ho.1 ho.2 hr) next
theorem W.ifN {cd : ClassFile.Cond} {x : Int32} {o : Int} (hd : decode bytes pc = .ok (.ifCond cd o, 3)) (q : ¬ Cd cd x 0) (next : W Z EL R own nm bytes ml ret Q D k n (pc + 3) ls st) : W Z EL R own nm bytes ml ret Q D k n pc ls (.int x :: st) :=
  W.pure (fun h hx hc hr => XS.ifNo (g := mkF _ pc ls (.int x :: st)) h hx rfl (hb hc hd) rfl ((if0 _ _).trans (Cd.no q)) hr) next
theorem W.if (pc' : Nat) {cd : ClassFile.Cond} {x : Int32} {o : Int} (hd : decode bytes pc = .ok (.ifCond cd o, 3)) (ho : 0 ≤ (pc : Int) + o ∧ ((pc : Int) + o).toNat = pc') (nextY : Cd cd x 0 → W Z EL R own nm bytes ml ret Q D k n pc' ls st) (nextN : ¬ Cd cd x 0 → W Z EL R own nm bytes ml ret Q D k n (pc + 3) ls st) : W Z EL R own nm bytes ml ret Q D k n pc ls (.int x :: st) := by
  by_cases q : Cd cd x 0
  · exact W.ifY pc' hd q ho (nextY q)
  · exact W.ifN hd q (nextN q)
def Ca : ClassFile.ACond → Value → Value → Prop
  | .eq, x, y => x = y
  | .ne, x, y => ¬ x = y
theorem Ca.yes {cd : ClassFile.ACond} {x y : Value} (q : Ca cd x y) : XT.acmp cd x y = true := by
  cases cd
  · exact XT.aa_eq_t q
  · exact XT.aa_ne_t q
theorem Ca.no {cd : ClassFile.ACond} {x y : Value} (q : ¬ Ca cd x y) : XT.acmp cd x y = false := by
  cases cd
  · exact XT.aa_eq_f q
  · exact XT.aa_ne_f (Classical.not_not.mp q)
theorem W.acmpY (pc' : Nat) {cd : ClassFile.ACond} {x y : Value} {o : Int} (hd : decode bytes pc = .ok (.if_acmp cd o, 3)) (hx1 : x.isRef = true) (hy1 : y.isRef = true) (q : Ca cd x y) (ho : 0 ≤ (pc : Int) + o ∧ ((pc : Int) + o).toNat = pc') (next : W Z EL R own nm bytes ml ret Q D k n pc' ls st) : W Z EL R own nm bytes ml ret Q D k n pc ls (y :: x :: st) :=
  W.pure (fun h hx hc hr => XT.acmpYes (g := mkF _ pc ls (y :: x :: st)) h hx rfl rfl (hb hc hd) rfl hx1 hy1 q.yes ho.1 ho.2 hr) next
theorem W.acmpN {cd : ClassFile.ACond} {x y : Value} {o : Int} (hd : decode bytes pc = .ok (.if_acmp cd o, 3)) (hx1 : x.isRef = true) (hy1 : y.isRef = true) (q : ¬ Ca cd x y) (next : W Z EL R own nm bytes ml ret Q D k n (pc + 3) ls st) : W Z EL R own nm bytes ml ret Q D k n pc ls (y :: x :: st) :=
  W.pure (fun h hx hc hr => XT.acmpNo (g := mkF _ pc ls (y :: x :: st)) h hx rfl (hb hc hd) rfl hx1 hy1 (Ca.no q) hr) next
theorem W.acmp (pc' : Nat) {cd : ClassFile.ACond} {x y : Value} {o : Int} (hd : decode bytes pc = .ok (.if_acmp cd o, 3)) (hx1 : x.isRef = true) (hy1 : y.isRef = true) (ho : 0 ≤ (pc : Int) + o ∧ ((pc : Int) + o).toNat = pc') (nextY : Ca cd x y → W Z EL R own nm bytes ml ret Q D k n pc' ls st) (nextN : ¬ Ca cd x y → W Z EL R own nm bytes ml ret Q D k n (pc + 3) ls st) : W Z EL R own nm bytes ml ret Q D k n pc ls (y :: x :: st) := by
  by_cases q : Ca cd x y
  · exact W.acmpY pc' hd hx1 hy1 q ho (nextY q)
  · exact W.acmpN hd hx1 hy1 q (nextN q)
end Walk
end Jvm.Wk
namespace Jvm.Wk
open Jvm Jvm.ClassFile Sem Op Lib Bundle Jvm.Free Jvm.Stand Jvm.LawKit Jvm.RoadKit
section Walk
variable {Z : State} {EL : Bool × List (String × Nat)} {R : Room} {own nm : String} {bytes : ByteArray} {ml : Nat} {ret : Option FieldType} {Q : Option Value → List Ent → Prop} {D D' : List Ent} {k n pc : Nat} {ls ls' : Array Slot} {st : List Value} {a0 : Array Value}
theorem W.still {pc' : Nat} {st' : List Value}
    (H : ∀ {p : Program} {l : Launch} {e : Env} {s : State} {m : MethodId} {args : Array Value} {below : List Frame} {meth : Method} {c : Code} {T : State} {locs : List Loc} {cells slots : Nat}, Stand p l e R s m args below meth c T locs cells slots → p.tables.exec = Jvm.exec → c.code = bytes → c.maxLocals = ml → s.vm.findClass own = some m.cls → Z.Warmed39 s.vm → (∃ vm, Hp Z EL D vm T.heap) →
      ∃ T', Stand p l e R s m args below meth c T' locs cells slots ∧ T'.heap = T.heap ∧ ∀ target, Steps p.tables e below (T'.setTop (mkF m pc' ls' st')) target → Steps p.tables e below (T.setTop (mkF m pc ls st)) target)
    (next : W Z EL R own nm bytes ml ret Q D k n pc' ls' st') : W Z EL R own nm bytes ml ret Q D k n pc ls st := by
  intro p l e s m args below meth c T vm0 k0 locs cells slots A
  obtain ⟨X, hS, hk0, hx, hby, hml, hown, hZ, r1, r2, r3, hN, hH, hc, hl, hE, hNI⟩ := A
  obtain ⟨T', X', e', stp⟩ := H X hx hby hml hown hZ ⟨_, hH⟩
  obtain ⟨s₂, o, h1, r⟩ := next p l e s m args below meth c T' vm0 k0 locs cells slots ⟨X', hS, by rw [e']; exact hk0, hx, hby, hml, hown, hZ, r1, r2, r3, hN, by rw [e']; exact hH, hc, hl, hE, hNI⟩
  exact ⟨s₂, o, stp _ h1, r⟩
theorem W.getf {a : Addr} {b : Bool} {C O f d R0 : String} {fs : List Fd} {v : Value} {idx : Nat} (hd : decode bytes pc = .ok (.getfield idx, 3)) (w : (Cond.fieldLink own idx R0 f d).before a0 Z = true) (via : Via Z R0 O f d) (hm : (a, b, .inl (C, fs)) ∈ D) (hf : (O, f, d, v) ∈ fs)
    (next : W Z EL R own nm bytes ml ret Q D k n (pc + 3) ls (v :: st)) : W Z EL R own nm bytes ml ret Q D k n pc ls (.ref a :: st) :=
  W.still (fun X hx hby hml hown hZ hH => by
    obtain ⟨vm, hH⟩ := hH
    exact getF (host := "") X hx hZ hown (Or.inl w) via rfl ((hH.2.2.1 _ hm).1.2 _ hf) (g := mkF _ pc ls (.ref a :: st)) rfl rfl (hb hby hd)) next
theorem W.gets {O f d R0 : String} {v : Value} {idx : Nat} (hd : decode bytes pc = .ok (.getstatic idx, 3)) (w : (Cond.fieldLink own idx R0 f d).before a0 Z = true) (via : Via Z R0 O f d) (F : Sta Z Z.heap O f d v)
    (next : W Z EL R own nm bytes ml ret Q D k n (pc + 3) ls (v :: st)) : W Z EL R own nm bytes ml ret Q D k n pc ls st :=
  W.still (fun X hx hby hml hown hZ hH => by
    obtain ⟨vm, hH⟩ := hH
    exact getS (host := "") X hx hZ hown w via rfl (F.ext hH.1) (g := mkF _ pc ls st) rfl (hb hby hd)) next
theorem W.alen {a : Addr} {b : Bool} {ad : String} {ty : FieldType} {vs : List Value} (z : Int32) (hd : decode bytes pc = .ok (.arraylength, 1)) (hm : (a, b, .inr (ad, ty, vs)) ∈ D) (hz : Nat.toInt32 vs.length = z)
    (next : W Z EL R own nm bytes ml ret Q D k n (pc + 1) ls (.int z :: st)) : W Z EL R own nm bytes ml ret Q D k n pc ls (.ref a :: st) :=
  W.still (fun X hx hby hml hown hZ hH => by
    obtain ⟨vm, hH⟩ := hH
    obtain ⟨c, A, r1, -⟩ := (hH.2.2.1 _ hm).1
    refine ⟨_, X, rfl, fun target ht => ?_⟩
    refine X.arraylength hx A.1 (State.isArrayOf_alike hZ.alike A.2.1) (g := mkF _ pc ls (.ref a :: st)) rfl rfl (hb hby hd) target ?_
    rw [r1]
    have : vs.toArray.size = vs.length := by simp
    rw [this, hz]; exact ht) next
theorem idx_in' {j : Int32} {i : Nat} {vs : List Value} {c : Cell} (r1 : c.slots = vs.toArray) (hj : Idx j i) (hi : i < vs.length) : ¬ (j < 0 ∨ c.slots.size ≤ j.toNatClampNeg) := by
  rw [r1, hj.2]; rintro (q | q)
  · exact hj.1 q
  · simp at q; omega
theorem idx_at' {j : Int32} {i : Nat} {vs : List Value} {c : Cell} {v : Value} (r1 : c.slots = vs.toArray) (hj : Idx j i) (hv : vs[i]? = some v) : c.slots[j.toNatClampNeg]? = some v := by
  rw [r1, hj.2]; simpa using hv
theorem lt_of_at {vs : List Value} {i : Nat} {v : Value} (hv : vs[i]? = some v) : i < vs.length := (List.getElem?_eq_some_iff.mp hv).1
theorem W.caload {a : Addr} {b : Bool} {ad : String} {vs : List Value} {j : Int32} (i : Nat) {v : Value} (hd : decode bytes pc = .ok (.caload, 1)) (hm : (a, b, .inr (ad, .char, vs)) ∈ D) (hj : Idx j i) (hv : vs[i]? = some v)
    (next : W Z EL R own nm bytes ml ret Q D k n (pc + 1) ls (v :: st)) : W Z EL R own nm bytes ml ret Q D k n pc ls (.int j :: .ref a :: st) :=
  W.still (fun X hx hby hml hown hZ hH => by
    obtain ⟨vm, hH⟩ := hH
    obtain ⟨c, A, r1, -⟩ := (hH.2.2.1 _ hm).1
    exact ⟨_, X, rfl, fun target ht => X.caload hx A.1 (State.isArrayOf_alike hZ.alike A.2.1) A.2.2 (idx_in' r1 hj (lt_of_at hv)) (idx_at' r1 hj hv) (g := mkF _ pc ls (.int j :: .ref a :: st)) rfl rfl (hb hby hd) target ht⟩) next
theorem W.baload {a : Addr} {b : Bool} {ad : String} {vs : List Value} {j : Int32} (i : Nat) {v : Value} (hd : decode bytes pc = .ok (.baload, 1)) (hm : (a, b, .inr (ad, .byte, vs)) ∈ D) (hj : Idx j i) (hv : vs[i]? = some v)
    (next : W Z EL R own nm bytes ml ret Q D k n (pc + 1) ls (v :: st)) : W Z EL R own nm bytes ml ret Q D k n pc ls (.int j :: .ref a :: st) :=
  W.still (fun X hx hby hml hown hZ hH => by
    obtain ⟨vm, hH⟩ := hH
    obtain ⟨c, A, r1, -⟩ := (hH.2.2.1 _ hm).1
    exact ⟨_, X, rfl, fun target ht => X.baloadBytes hx A.1 (State.isArrayOf_alike hZ.alike A.2.1) A.2.2 (idx_in' r1 hj (lt_of_at hv)) (idx_at' r1 hj hv) (g := mkF _ pc ls (.int j :: .ref a :: st)) rfl rfl (hb hby hd) target ht⟩) next
theorem W.ldcI {idx : Nat} {v : Int32} (hd : decode bytes pc = .ok (.ldc idx, 2)) (w : (Cond.constant own idx v).before a0 Z = true) (next : W Z EL R own nm bytes ml ret Q D k n (pc + 2) ls (.int v :: st)) : W Z EL R own nm bytes ml ret Q D k n pc ls st :=
  W.still (fun X hx hby hml hown hZ hH => ⟨_, X, rfl, fun target ht => X.ldcI hx hown (mvT hZ w) (g := mkF _ pc ls st) rfl (hb hby hd) ht⟩) next
theorem W.castY {a : Addr} {K : String} {idx : Nat} (hd : decode bytes pc = .ok (.checkcast idx, 3)) (w : (Cond.classLink own idx K).before a0 Z = true) (hI : ∀ vm h, Hp Z EL D vm h → Ins Z h a K true) (next : W Z EL R own nm bytes ml ret Q D k n (pc + 3) ls (.ref a :: st)) : W Z EL R own nm bytes ml ret Q D k n pc ls (.ref a :: st) :=
  W.still (fun X hx hby hml hown hZ hH => by
    obtain ⟨vm, hH⟩ := hH
    exact Jvm.RoadKit.castY X hx hZ hown w rfl (hI _ _ hH) (g := mkF _ pc ls (.ref a :: st)) rfl rfl (hb hby hd)) next
theorem Hp.exa {D : List Ent} {a : Addr} {b : Bool} {C : String} {fs : List Fd} (hm : (a, b, .inl (C, fs)) ∈ D) : ∀ vm h, Hp Z EL D vm h → Exa Z h a C := fun _ _ H => (H.2.2.1 _ hm).1.1
theorem Hp.ins {D : List Ent} {a : Addr} {b : Bool} {C : String} {fs : List Fd} (hm : (a, b, .inl (C, fs)) ∈ D) : ∀ vm h, Hp Z EL D vm h → Ins Z h a C true := fun _ _ H => Ins.self (H.2.2.1 _ hm).1.1
theorem Hp.exaA {D : List Ent} {a : Addr} {b : Bool} {ad : String} {ty : FieldType} {vs : List Value} (hm : (a, b, .inr (ad, ty, vs)) ∈ D) (hne : ad ≠ "") : ∀ vm h, Hp Z EL D vm h → Exa Z h a ad := fun _ _ H => by
  obtain ⟨c, -, -, -, -, r⟩ := (H.2.2.1 _ hm).1; exact r hne
theorem Hp.insA {D : List Ent} {a : Addr} {b : Bool} {ad : String} {ty : FieldType} {vs : List Value} (hm : (a, b, .inr (ad, ty, vs)) ∈ D) (hne : ad ≠ "") : ∀ vm h, Hp Z EL D vm h → Ins Z h a ad true := fun vm h H => Ins.self (Hp.exaA hm hne vm h H)
theorem W.initO {a : Addr} {idx : Nat} (Wt : Nat) (hd : decode bytes pc = .ok (.invokespecial idx, 3)) (w1 : (Cond.methodLink own idx Lib.objectInit).before a0 Z = true) (w2 : (Cond.instanceMethod Lib.objectInit).before a0 Z = true) (w3 : (Cond.code Lib.objectInit ⟨#[0xb1]⟩ 1 none).before a0 Z = true)
    (hls : ls.size = ml) (hW : (st.map fun v => v.category).sum = Wt) (hr : 1 ≤ R.frames ∧ Wt + 12 ≤ R.locals) (next : W Z EL R own nm bytes ml ret Q D k n (pc + 3) ls st) : W Z EL R own nm bytes ml ret Q D k n pc ls (.ref a :: st) :=
  W.still (fun X hx hby hml hown hZ hH => Jvm.RoadKit.initO X hx hZ hown w1 w2 w3 rfl (g := mkF _ pc ls (.ref a :: st)) rfl (by rw [hml]; exact hls) rfl (hb hby hd) hr.1 (W := Wt) (by show 2 * 0 + _ ≤ _; omega) hr.2) next
def LaidAll (Z : State) (a0 : Array Value) (C : String) : List Fd → Prop
  | [] => True
  | f :: r => (Laid Z a0 C f.1 f.2.1 f.2.2.1 ∧ ∃ ty, parseFieldDescriptor f.2.2.1 = some ty ∧ f.2.2.2 = defaultValue ty) ∧ LaidAll Z a0 C r
theorem LaidAll.mem {C : String} : ∀ {fs : List Fd}, LaidAll Z a0 C fs → ∀ f ∈ fs, Laid Z a0 C f.1 f.2.1 f.2.2.1 ∧ ∃ ty, parseFieldDescriptor f.2.2.1 = some ty ∧ f.2.2.2 = defaultValue ty
  | [], _, _, q => nomatch q
  | f :: r, L, g, q => by
    rcases List.mem_cons.mp q with rfl | q
    · exact L.1
    · exact LaidAll.mem L.2 g q
theorem LaidAll.dist {C : String} : ∀ {fs : List Fd}, LaidAll Z a0 C fs → (fs.map (·.2.1)).Pairwise (fun x y => x ≠ y) → (fs.map (sl Z)).Pairwise (fun x y => x ≠ y)
  | [], _, _ => List.Pairwise.nil
  | f :: r, L, N => by
    obtain ⟨n1, n2⟩ := List.pairwise_cons.mp N
    refine List.pairwise_cons.mpr ⟨fun y hy => ?_, LaidAll.dist L.2 n2⟩
    obtain ⟨g, hg, rfl⟩ := List.mem_map.mp hy
    obtain ⟨l1, t1, q1, -⟩ := L.1
    obtain ⟨l2, t2, q2, -⟩ := LaidAll.mem L.2 g hg
    exact slot_ne l1 l2 (n1 _ (List.mem_map.mpr ⟨g, hg, rfl⟩)) q1 q2
theorem W.new {C : String} {idx nn : Nat} {fs : List Fd} (hd : decode bytes pc = .ok (.new idx, 3)) (w : (Cond.classLink own idx C).before a0 Z = true) (wi : (Cond.instantiable C nn).before a0 Z = true) (wz : (Cond.initialized C).before a0 Z = true)
    (hfs : LaidAll Z a0 C fs) (hnm : (fs.map (·.2.1)).Pairwise (fun x y => x ≠ y)) (hr : k + 1 ≤ R.cells ∧ n + nn ≤ R.slots) (next : ∀ a, W Z EL R own nm bytes ml ret Q ((a, true, .inl (C, fs)) :: D) (k + 1) (n + nn) (pc + 3) ls (.ref a :: st)) : W Z EL R own nm bytes ml ret Q D k n pc ls st := by
  intro p l e s m args below meth c T vm0 k0 locs cells slots A
  obtain ⟨X, hS, hk0, hx, hby, hml, hown, hZ, r1, r2, r3, hN, hH, hc, hl, hE, hNI⟩ := A
  obtain ⟨T', h', X', e', E, A2, D2, -, stp⟩ := newO X hx hZ hown w wi wz rfl (g := mkF m pc ls st) rfl (hb hby hd) (by omega) (by omega)
  have H' : Hp Z EL ((T.heap.size, true, .inl (C, fs)) :: D) vm0 h' := hH.new E ⟨A2, fun f hf => by
    obtain ⟨l1, ty, q1, q2⟩ := hfs.mem f hf
    rw [q2]; exact D2 l1 q1⟩ (hfs.dist hnm)
  obtain ⟨s₂, o, h1, r⟩ := next T.heap.size p l e s m args below meth c T' vm0 k0 locs (cells + 1) (slots + nn) ⟨X', hS, by rw [e']; exact Nat.le_trans hk0 E.1, hx, hby, hml, hown, hZ, r1, r2, r3, hN, by rw [e']; exact H', by omega, by omega, hE, hNI⟩
  exact ⟨s₂, o, stp _ h1, r⟩
theorem fits_default (ty : FieldType) : fits ty (defaultValue ty) = true := by cases ty <;> rfl
theorem W.newarr {aty : ArrayType} {z : Int32} (N : Nat) {ad : String} {ty : FieldType} (hd : decode bytes pc = .ok (.newarray aty, 2)) (hty : newarray.typeOf aty = ty) (w : (Cond.arrayClass ty).before a0 Z = true) (hz : Idx z N) (had : "[" ++ ty.toString = ad) (hb8 : N * 8 ≤ 536870912) (hr : k + 1 ≤ R.cells ∧ n + N ≤ R.slots)
    (next : ∀ a, W Z EL R own nm bytes ml ret Q ((a, true, .inr (ad, ty, List.replicate N (defaultValue ty))) :: D) (k + 1) (n + N) (pc + 2) ls (.ref a :: st)) : W Z EL R own nm bytes ml ret Q D k n pc ls (.int z :: st) := by
  intro p l e s m args below meth c T vm0 k0 locs cells slots A
  subst hty
  obtain ⟨X, hS, hk0, hx, hby, hml, hown, hZ, r1, r2, r3, hN, hH, hc, hl, hE, hNI⟩ := A
  obtain ⟨T', h', cA, X', e', E, A2, E2, stp⟩ := newPE X hx hZ w rfl (g := mkF m pc ls (.int z :: st)) rfl (hb hby hd) rfl hz.1 (cap := N) (by rw [hz.2]; exact Nat.le_refl _) hb8 (by omega) (by omega) had
  have H' : Hp Z EL ((T.heap.size, true, .inr (ad, newarray.typeOf aty, List.replicate N (defaultValue (newarray.typeOf aty)))) :: D) vm0 h' := hH.new E ⟨_, A2, by simp [newA, hz.2], by simp; omega, fun v hv => by rw [(List.mem_replicate.mp hv).2]; exact fits_default _, fun _ => E2⟩ trivial
  obtain ⟨s₂, o, h1, r⟩ := next T.heap.size p l e s m args below meth c T' vm0 k0 locs (cells + 1) (slots + N) ⟨X', hS, by rw [e']; exact Nat.le_trans hk0 E.1, hx, hby, hml, hown, hZ, r1, r2, r3, hN, by rw [e']; exact H', by omega, by omega, hE, hNI⟩
  exact ⟨s₂, o, stp _ h1, r⟩
theorem pw_ne {l : List Nat} (P : l.Pairwise (fun x y => x ≠ y)) {i j : Nat} {x y : Nat} (hij : i ≠ j) (hi : l[i]? = some x) (hj : l[j]? = some y) : x ≠ y := by
  obtain ⟨i1, rfl⟩ := List.getElem?_eq_some_iff.mp hi
  obtain ⟨j1, rfl⟩ := List.getElem?_eq_some_iff.mp hj
  rw [List.pairwise_iff_getElem] at P
  rcases Nat.lt_or_gt_of_ne hij with q | q
  · exact P i j i1 j1 q
  · exact (P j i j1 i1 q).symm
theorem set_map_sl {fs : List Fd} {j : Nat} {f g : Fd} (hj : fs[j]? = some f) (e : sl Z g = sl Z f) : (fs.set j g).map (sl Z) = fs.map (sl Z) := by
  rw [List.map_set, e]
  apply List.ext_getElem?
  intro i
  rw [List.getElem?_set]
  split
  · rename_i q; subst q
    rw [List.getElem?_map, hj]
    have := (List.getElem?_eq_some_iff.mp hj).1
    simp [this]
  · rfl
theorem Sat.put {h h' : Heap} {a : Addr} {C O f d : String} {fs : List Fd} {j : Nat} {old v : Value} (S : Sat Z h a (.inl (C, fs))) (hD : Dist Z (.inl (C, fs))) (hj : fs[j]? = some (O, f, d, old)) (Wr1 : Wr h h' a (Jvm.RoadKit.slotOf Z O f d) v) : Sat Z h' a (.inl (C, fs.set j (O, f, d, v))) := by
  refine ⟨S.1.wr Wr1, fun g hg => ?_⟩
  obtain ⟨i, hi⟩ := List.mem_iff_getElem?.mp hg
  rw [List.getElem?_set] at hi
  split at hi
  · rename_i q; subst q
    split at hi
    · cases hi; exact (S.2 _ (List.mem_of_getElem? hj)).same Wr1
    · cases hi
  · rename_i q
    refine (S.2 g (List.mem_of_getElem? hi)).other Wr1 (Or.inr ?_)
    exact pw_ne hD (Ne.symm q) (x := sl Z g) (y := sl Z (O, f, d, old)) (by rw [List.getElem?_map, hi]; rfl) (by rw [List.getElem?_map, hj]; rfl)
theorem W.putf {a : Addr} {C O f d R0 : String} {fs : List Fd} {old v : Value} {idx kk : Nat} {ty : FieldType} (i j : Nat) (hd : decode bytes pc = .ok (.putfield idx, 3)) (w : (Cond.fieldLink own idx R0 f d).before a0 Z = true) (via : Via Z R0 O f d)
    (hi : D[i]? = some (a, true, .inl (C, fs))) (hj : fs[j]? = some (O, f, d, old)) (L : (Cond.lays C O f d).before a0 Z = true ∨ ((Cond.laysFinal C O f d).before a0 Z = true ∧ own = O ∧ nm = "<init>")) (wi : (Cond.instantiable C kk).before a0 Z = true)
    (hty : parseFieldDescriptor d = some ty) (hn : narrow ty v = v) (hf : fits ty v = true) (hD : D.set i (a, true, .inl (C, fs.set j (O, f, d, v))) = D')
    (next : W Z EL R own nm bytes ml ret Q D' k n (pc + 3) ls st) : W Z EL R own nm bytes ml ret Q D k n pc ls (v :: .ref a :: st) := by
  intro p l e s m args below meth c T vm0 k0 locs cells slots A
  obtain ⟨X, hS, hk0, hx, hby, hml, hown, hZ, r1, r2, r3, hN, hH, hc, hl, hE, hNI⟩ := A
  subst hD
  obtain ⟨S, g⟩ := hH.2.2.1 _ (List.mem_of_getElem? hi)
  obtain ⟨T', h', X', e', W1, stp⟩ := putF (host := "") X hx hZ hown (Or.inl w) via rfl (S.2 _ (List.mem_of_getElem? hj)) S.1 (L.imp id fun q => ⟨q.1, q.2.1, r3.trans q.2.2⟩) wi hty hn hf (g := mkF m pc ls (v :: .ref a :: st)) rfl rfl (hb hby hd)
  obtain ⟨g1, g2, g3⟩ := g rfl
  have H' := hH.keepSet (d' := .inl (C, fs.set j (O, f, d, v))) hi (Keep.of_wr W1) (Sat.put S g3 hj W1) (by show List.Pairwise _ _; rw [set_map_sl (Z := Z) (g := (O, f, d, v)) hj rfl]; exact g3)
  obtain ⟨s₂, o, q1, r⟩ := next p l e s m args below meth c T' vm0 k0 _ cells slots ⟨X', hS, by rw [e', W1.size]; exact hk0, hx, hby, hml, hown, hZ, r1, r2, r3, Fr.snoc X' hN g1, by rw [e']; exact H', hc, hl, hE, hNI⟩
  exact ⟨s₂, o, stp _ q1, r⟩
theorem Sat.store {h h' : Heap} {a : Addr} {ad : String} {ty : FieldType} {vs : List Value} {i : Nat} {v : Value} (S : Sat Z h a (.inr (ad, ty, vs))) (hv : fits ty v = true) (W1 : Wr h h' a i v) : Sat Z h' a (.inr (ad, ty, vs.set i v)) := by
  obtain ⟨c, A, r1, r2, r3, r4⟩ := S
  refine ⟨_, A.same W1, ?_, by simpa using r2, fun x hx => ?_, fun q => (r4 q).wr W1⟩
  · simp [Cell.setSlot, r1]
  · rcases List.mem_or_eq_of_mem_set hx with hx | rfl
    · exact r3 x hx
    · exact hv
theorem W.stA {a : Addr} {ad : String} {ty : FieldType} {vs : List Value} {i j : Nat} {v : Value} {st' : List Value} {pc' : Nat}
    (H : ∀ {p : Program} {l : Launch} {e : Env} {s : State} {m : MethodId} {args : Array Value} {below : List Frame} {meth : Method} {c : Code} {T : State} {locs : List Loc} {cells slots : Nat} {cl : Cell}, Stand p l e R s m args below meth c T locs cells slots → p.tables.exec = Jvm.exec → c.code = bytes → Z.Warmed39 s.vm → Arr Z T.heap a cl ty → cl.slots = vs.toArray →
      ∃ T' h', Stand p l e R s m args below meth c T' (locs ++ [⟨a, j⟩]) cells slots ∧ T'.heap = h' ∧ Wr T.heap h' a j v ∧ ∀ target, Steps p.tables e below (T'.setTop (mkF m pc' ls st')) target → Steps p.tables e below (T.setTop (mkF m pc ls st)) target)
    (hi : D[i]? = some (a, true, .inr (ad, ty, vs))) (hf : fits ty v = true) (hD : D.set i (a, true, .inr (ad, ty, vs.set j v)) = D')
    (next : W Z EL R own nm bytes ml ret Q D' k n pc' ls st') : W Z EL R own nm bytes ml ret Q D k n pc ls st := by
  intro p l e s m args below meth c T vm0 k0 locs cells slots A
  obtain ⟨X, hS, hk0, hx, hby, hml, hown, hZ, r1, r2, r3, hN, hH, hc, hl, hE, hNI⟩ := A
  subst hD
  obtain ⟨S, g⟩ := hH.2.2.1 _ (List.mem_of_getElem? hi)
  obtain ⟨cl, A, q1, -⟩ := id S
  obtain ⟨T', h', X', e', W1, stp⟩ := H X hx hby hZ A q1
  obtain ⟨g1, g2, g3⟩ := g rfl
  have H' := hH.keepSet hi (Keep.of_wr W1) (Sat.store S hf W1) trivial
  obtain ⟨s₂, o, q1, r⟩ := next p l e s m args below meth c T' vm0 k0 _ cells slots ⟨X', hS, by rw [e', W1.size]; exact hk0, hx, hby, hml, hown, hZ, r1, r2, r3, Fr.snoc X' hN g1, by rw [e']; exact H', hc, hl, hE, hNI⟩
  exact ⟨s₂, o, stp _ q1, r⟩
theorem W.castore {a : Addr} {ad : String} {vs : List Value} {z x x' : Int32} (i j : Nat) (hd : decode bytes pc = .ok (.castore, 1)) (hi : D[i]? = some (a, true, .inr (ad, .char, vs))) (hz : Idx z j) (hj : j < vs.length) (hx' : nar .char x = x')
    (hD : D.set i (a, true, .inr (ad, .char, vs.set j (.int x'))) = D') (next : W Z EL R own nm bytes ml ret Q D' k n (pc + 1) ls st) : W Z EL R own nm bytes ml ret Q D k n pc ls (.int x :: .int z :: .ref a :: st) :=
  W.stA (i := i) (j := j) (fun X hx hby hZ A q => by
    have r := stC X hx hZ rfl A (j := z) (x := x) (idx_in' q hz hj) (g := mkF _ pc ls (.int x :: .int z :: .ref a :: st)) rfl rfl (hb hby hd)
    rw [hz.2, hx'] at r; exact r) hi (by rw [← hx']; exact fits_nar_char x) hD next
theorem W.bastore {a : Addr} {ad : String} {vs : List Value} {z x x' : Int32} (i j : Nat) (hd : decode bytes pc = .ok (.bastore, 1)) (hi : D[i]? = some (a, true, .inr (ad, .byte, vs))) (hz : Idx z j) (hj : j < vs.length) (hx' : nar .byte x = x')
    (hD : D.set i (a, true, .inr (ad, .byte, vs.set j (.int x'))) = D') (next : W Z EL R own nm bytes ml ret Q D' k n (pc + 1) ls st) : W Z EL R own nm bytes ml ret Q D k n pc ls (.int x :: .int z :: .ref a :: st) :=
  W.stA (i := i) (j := j) (fun X hx hby hZ A q => by
    have r := stB X hx hZ rfl A (j := z) (x := x) (idx_in' q hz hj) (g := mkF _ pc ls (.int x :: .int z :: .ref a :: st)) rfl rfl (hb hby hd)
    rw [hz.2, hx'] at r; exact r) hi (by rw [← hx']; exact fits_nar_byte x) hD next
abbrev dStr (c : Int32) (v : Value) : Desc := .inl ("java/lang/String", [("java/lang/String", "value", "[B", v), ("java/lang/String", "coder", "B", .int c)])
theorem W.ldcT {idx : Nat} {text : String} (N : Nat) {vs : List Value} (hni : EL.1 = false) (hd : decode bytes pc = .ok (.ldc idx, 2)) (w : (Cond.stringLink own idx text).before a0 Z = true) (wS : ∀ a ∈ Bundle.stringAtoms, a.before a0 Z = true) (hmem : (own, idx) ∈ EL.2)
    (ht : (∀ c ∈ text.toList, c.toNat < 256) ∧ text.toList.map (fun c => Value.int (Jvm.Lit.byteI c.toNat.toUInt16)) = vs) (hn : 4 * text.toList.length ≤ N) (hbig : N ≤ 536870912) (hr : k + 2 ≤ R.cells ∧ n + (N + 4) ≤ R.slots)
    (next : ∀ a b, W Z EL R own nm bytes ml ret Q ((a, false, dStr 0 (.ref b)) :: (b, false, .inr ("", .byte, vs)) :: D) (k + 2) (n + (N + 4)) (pc + 2) ls (.ref a :: st)) : W Z EL R own nm bytes ml ret Q D k n pc ls st := by
  intro p l e s m args below meth c T vm0 k0 locs cells slots A
  obtain ⟨X, hS, hk0, hx, hby, hml, hown, hZ, r1, r2, r3, hN, hH, hc, hl, ⟨⟨b0, hE⟩, hNL⟩, hNI⟩ := A
  have hE' : EW Z a0 EL.2 := fun q hq => by
    obtain ⟨t, ht, r⟩ := hE q hq
    exact ⟨t, by have := mvS (s := Z) (args := a0) (State.Warmed39.refl Z) ht; simpa using this, r⟩
  have hlen : vs.length = text.toList.length := by rw [← ht.2]; simp
  have hv31 : vs.length < 2147483648 := by omega
  have iz := Idx.of_nat hv31
  obtain ⟨a, T', h', k1, b, kk, X', e', E, hS', hk1, hZ', hown', F1, F2, F3, F4, g1, g2, hC, -, hne, stp⟩ := ldcCH X hx hZ hown w wS rfl hS hk0 hE' hmem hH.2.1 (z := Nat.toInt32 vs.length) ht iz.1 iz.2 (g := mkF m pc ls st) rfl (hb hby hd) hn hbig (by omega) (by omega)
  have hH1 := hH.grown E hC
  have hH2 : Hp Z EL ((b, false, .inr ("", .byte, vs)) :: D) T'.vm h' := hH1.read (Sat.of_arv F4 iz.2 fun q => absurd rfl q) fun x q _ => (hne x q).2
  have hH3 : Hp Z EL ((a, false, dStr 0 (.ref b)) :: (b, false, .inr ("", .byte, vs)) :: D) T'.vm h' := hH2.read ⟨F1, fun f hf => by
    rcases List.mem_cons.mp hf with rfl | hf
    · exact F3
    · cases List.mem_singleton.mp hf; exact F2⟩ fun x q _ => (hne x q).1
  obtain ⟨s₂, o, q1, r⟩ := next a b p l e s m args below meth c T' T'.vm k1 locs (cells + 2) (slots + (N + 4)) ⟨X', hS', by rw [e']; exact hk1, hx, hby, hml, hown', hZ', r1, r2, r3, hN, by rw [e']; exact hH3, by omega, by omega, ⟨⟨b0, hE⟩, hNL⟩, fun q => by rw [hni] at q; cases q⟩
  exact ⟨s₂, o, stp _ q1, r⟩
theorem W.out {v : Option Value} (hk : k ≤ R.cells ∧ n ≤ R.slots) (hv : ret = none → v = none) (q : Q v D)
    (H : ∀ {p : Program} {l : Launch} {e : Env} {s : State} {m : MethodId} {args : Array Value} {below : List Frame} {meth : Method} {c : Code} {T : State} {locs : List Loc} {cells slots : Nat} {fs : List Frame}, Stand p l e R s m args below meth c T locs cells slots → p.tables.exec = Jvm.exec → c.code = bytes → meth.sig.returnType = ret →
      (∀ (f : JFrame) (acts : List Action), f.method = m → f.locked = none → f.entered = [] → (doReturn e (T.setTop f) acts v).1 = T.setFrames fs) → Steps p.tables e below (T.setTop (mkF m pc ls st)) (T.setFrames fs)) : W Z EL R own nm bytes ml ret Q D k n pc ls st := by
  intro p l e s m args below meth c T vm0 k0 locs cells slots A
  obtain ⟨X, hS, hk0, hx, hby, hml, hown, hZ, r1, r2, r3, hN, hH, hc, hl, ⟨⟨b0, hE⟩, hNL⟩, hNI⟩ := A
  obtain ⟨fs, h1, h2, h3, ⟨h4, h5, h6, h7⟩⟩ := X.leaveW hS hk0 (v := v) (fun z => hv (r1 ▸ z)) r2
  refine ⟨_, _, H X hx hby r1 h1, h2, h3, v, locs, rfl, hN, ⟨D, (show Hp Z EL D T.vm T.heap from hH.toVm (CHv.at X hZ hE hH.2.1)), q⟩, ⟨h4, h5, h6, h7.mono (by omega) (by omega)⟩, fun q => ?_⟩
  have := X.warmed
  rw [hNI q] at this; exact this
theorem W.ireturn {x : Int32} {t : FieldType} (hd : decode bytes pc = .ok (.ireturn, 1)) (hret : ret = some t) (ht : t = .int ∨ t = .boolean ∨ t = .byte ∨ t = .char ∨ t = .short) (hn : narrow t (.int x) = .int x) (hk : k ≤ R.cells ∧ n ≤ R.slots) (q : Q (some (.int x)) D) : W Z EL R own nm bytes ml ret Q D k n pc ls (.int x :: st) :=
  W.out hk (fun z => by rw [hret] at z; cases z) q (fun X hx hby hr hl => retOut X hx (hr.trans hret) hn (Or.inl ⟨rfl, ht, x, rfl⟩) (hb hby hd) hl)
theorem W.areturn {v : Value} {t : FieldType} (hd : decode bytes pc = .ok (.areturn, 1)) (hret : ret = some t) (ht : t.isReference = true) (hv : v.isRef = true) (hk : k ≤ R.cells ∧ n ≤ R.slots) (q : Q (some v) D) : W Z EL R own nm bytes ml ret Q D k n pc ls (v :: st) :=
  W.out hk (fun z => by rw [hret] at z; cases z) q (fun X hx hby hr hl => retOut X hx (hr.trans hret) (by cases t <;> first | rfl | cases ht) (Or.inr (Or.inr (Or.inr (Or.inr ⟨rfl, ht, hv⟩)))) (hb hby hd) hl)
theorem W.return_ (hd : decode bytes pc = .ok (.return_, 1)) (hret : ret = none) (hk : k ≤ R.cells ∧ n ≤ R.slots) (q : Q none D) : W Z EL R own nm bytes ml ret Q D k n pc ls [] :=
  W.out hk (fun _ => rfl) q (fun X hx hby hr hl => X.returnOut hx (hr.trans hret) (hb hby hd) hl)
end Walk
end Jvm.Wk
namespace Jvm.Wk
open Jvm Jvm.ClassFile Sem Op Lib Bundle Jvm.Free Jvm.Stand Jvm.LawKit Jvm.RoadKit
theorem same_self {Z : State} {a0 : Array Value} {y y2 : MethodName} {C : String} (hc : y2.cls = y.cls) (hy : y.cls ≠ "java/lang/invoke/MethodHandle" ∧ y.cls ≠ "java/lang/invoke/VarHandle") (wi : (Cond.instanceMethod y).before a0 Z = true) (wi2 : (Cond.instanceMethod y2).before a0 Z = true) (wse : (Cond.selects C y2 y2).before a0 Z = true) : (Cond.sameMethod y.cls y.cls y.name y.desc).before a0 Z = true := by
  obtain ⟨mk, meth, hn, -⟩ := Cond.instanceMethod_spec wi
  obtain ⟨mk2, meth2, hn2, -⟩ := Cond.instanceMethod_spec wi2
  have hf := State.methodFound?_of_named hn hy
  have h1 := findClass_of_methodNamed hn
  have h2 := findClass_of_methodNamed hn2
  obtain ⟨kr, hkr, hni⟩ := notFace_of_selects (args := a0) wse mk2 hn2
  rw [hc, h1] at h2
  have h3 := Option.some.inj h2
  rw [← h3] at hkr
  simp [Cond.before, Cond.holds, Cond.value, h1, hf, hn, hkr, hni]
theorem notFace_by {s : State} {args : Array Value} {y y2 : MethodName} {C : String} (hc : y2.cls = y.cls) (wi2 : (Cond.instanceMethod y2).before args s = true) (wse : (Cond.selects C y2 y2).before args s = true) : NotFace s y := fun r0 h0 => by
  obtain ⟨mk2, meth2, hn2, -⟩ := Cond.instanceMethod_spec wi2
  have h2 := findClass_of_methodNamed hn2
  rw [hc, findClass_of_methodNamed h0] at h2
  have h3 := Option.some.inj h2
  rw [h3]; exact notFace_of_selects wse mk2 hn2
section Calls
variable {Z : State} {EL : Bool × List (String × Nat)} {R : Room} {own nm : String} {bytes : ByteArray} {ml : Nat} {ret : Option FieldType} {Q : Option Value → List Ent → Prop} {D D' : List Ent} {k n pc : Nat} {ls ls' : Array Slot} {st : List Value} {a0 : Array Value}
variable {y : MethodName} {cb : ByteArray} {cm : Nat} {cr : Option FieldType} {rm : Room} {as : List Value} {Q' : Option Value → List Ent → Prop} {idx : Nat}
abbrev CPre (Z : State) (EL : Bool × List (String × Nat)) (R rm : Room) (D : List Ent) (vm0 : Vm) (as : List Value) : Pt → Array Value → Prop := fun A a => a = as.toArray ∧ Hp Z EL D vm0 A.U.heap ∧ A.cells + rm.cells ≤ R.cells ∧ A.slots + rm.slots ≤ R.slots
abbrev CPost (Z : State) (EL : Bool × List (String × Nat)) (rm : Room) (Q' : Option Value → List Ent → Prop) : Pt → Array Value → Option Value → Pt → Prop :=
  fun A _ v B => ∃ L D', Fr Z.heap.size L ∧ Hp Z EL D' B.U.vm B.U.heap ∧ Q' v D' ∧ B.locs = A.locs ++ L ∧ B.cells = A.cells + rm.cells ∧ B.slots = A.slots + rm.slots ∧ (EL.1 = true → A.U.WarmedH B.U.vm)
theorem conBack {p : Program} {l : Launch} {e : Env} {s : State} {args : Array Value} {below : List Frame} {vm0 : Vm} {len Wt : Nat} (hC : Con Z EL y cb cm cr rm as D Q') (hZ : Z.Warmed39 vm0) (wc : (Cond.code y cb cm cr).before a0 Z = true) (wz : (Cond.initialized y.cls).before a0 Z = true) (hE : ELok Z EL)
    (hf : rm.frames + 1 ≤ R.frames) (hl : Wt + (cm + 11) + rm.locals ≤ R.locals) : BackS l R p e below (s.setVm vm0) args y len Wt (CPre Z EL R rm D vm0 as) (CPost Z EL rm Q') := by
  obtain ⟨⟨b0, hE0⟩, hNL⟩ := id hE
  exact BackS.of_freeW (bytes := cb) (maxL := cm) (ret := cr) (E := fun _ first o t L k n => k = rm.cells ∧ n = rm.slots ∧ Fr Z.heap.size L ∧ (EL.1 = true → first.WarmedH t.vm) ∧ ∃ v, o = .returned v ∧ ∃ D', Hp Z EL D' t.vm t.heap ∧ Q' v D') (hC hE l []) hf hl
    (fun m meth c A a Y hp => have hU : Z.Warmed39 A.U.vm := wtrans (s := s.setVm vm0) hZ Y.warmed
      ⟨by show (Cond.and _ .tt).before a A.U = true; rw [Cond.before_and, mv hU wc]; rfl, mv hU wc, mv hU wz, hp.2.2.1, hp.2.2.2⟩)
    (fun m meth c A a g mk Y hp => ⟨hp.1, wtrans (s := s.setVm vm0) hZ Y.warmed, (show Hp Z EL D A.U.vm A.U.heap from hp.2.1.toVm (CHv.at Y hZ hE0 hp.2.1.2.1))⟩) (fun _ _ _ _ _ _ _ _ _ => trivial)
    (fun _ _ _ _ ⟨v, L, h1, h2, h3, h4, h5⟩ => ⟨L, _, _, h4, rfl, rfl, h2, h5, v, h1, h3⟩)
    (fun m meth c A a g mk v t L k n Y hp _ _ ⟨e1, e2, e3, e7, v', e4, D', e5, e6⟩ => by
      cases e4; subst e1 e2
      exact ⟨L, D', e3, e5, e6, rfl, rfl, rfl, e7⟩)
theorem W.afterCall {p : Program} {l : Launch} {e : Env} {s : State} {m : MethodId} {args : Array Value} {below : List Frame} {meth : Method} {c : Code} {T : State} {vm0 : Vm} {k0 : Nat} {locs : List Loc} {cells slots : Nat} {len : Nat} {rest : List Value} {aa : Array Value}
    (A : Here Z EL R own nm bytes ml ret D k n p l e s m args below meth c T vm0 k0 locs cells slots)
    (hB : ∃ (v : Option Value) (vm₁ : Vm) (B : Pt), (s.setVm vm0).WarmedH vm₁ ∧ Stand p l e R ((s.setVm vm0).setVm B.U.vm) m args below meth c B.U B.locs B.cells B.slots ∧ (s.setVm vm0).Since B.U.vm B.U.heap.size ∧ T.heap.size ≤ B.U.heap.size ∧ CPost Z EL rm Q' ⟨T.setVm vm₁, locs, cells, slots⟩ aa v B ∧
      Steps p.tables e below (T.setTop (mkF m pc ls st)) (B.U.setTop { mkF m pc ls st with pc := pc + len, stack := v.toList ++ rest }))
    (next : ∀ v D', Q' v D' → W Z EL R own nm bytes ml ret Q D' (k + rm.cells) (n + rm.slots) (pc + len) ls (v.toList ++ rest)) :
    ∃ s₂ o, Steps p.tables e below (T.setTop (mkF m pc ls st)) s₂ ∧ s₂.status = .running ∧ Ended s₂ below o ∧ Res Z EL Q R s o s₂ := by
  obtain ⟨X, hS, hk0, hx, hby, hml, hown, hZ, r1, r2, r3, hN, hH, hc, hl, hE, hNI⟩ := A
  obtain ⟨v, vm₁, ⟨U, L1, c1, n1⟩, hW1, X', hS', hg, ⟨L, D', hL, hH', hq, e1, e2, e3, e4⟩, stp⟩ := hB
  dsimp only [Pt.U, Pt.locs, Pt.cells, Pt.slots] at X' hS' hg hH' e1 e2 e3 e4 stp
  subst e1 e2 e3
  cases hb : EL.1 with
  | false =>
    obtain ⟨s₂, o, q1, r⟩ := next v D' hq p l e s m args below meth c U U.vm U.heap.size (locs ++ L) (cells + rm.cells) (slots + rm.slots)
      ⟨X', hS.trans hS' (Nat.le_trans hk0 hg), Nat.le_refl _, hx, hby, hml, (hS'.1.alike.findClass _ _).trans hown, State.Warmed39.trans (t := s.setVm vm0) hZ hS'.1, r1, r2, r3, Fr.app hN hL, hH', by omega, by omega, hE, fun q => by rw [hb] at q; cases q⟩
    exact ⟨s₂, o, stp.trans q1, r⟩
  | true =>
    have hWU : (s.setVm vm0).WarmedH U.vm := State.WarmedH.trans hW1 (e4 hb)
    have X2 : Stand p l e R (s.setVm vm0) m args below meth c U (locs ++ L) (cells + rm.cells) (slots + rm.slots) :=
      ⟨X.admits, X.cas, X.clock, X.frames, X.room, X.hears, X.method, X.code, X'.here, X'.tail, hWU, X'.limits, X'.bytes, X'.same.setVm vm0⟩
    have hn0 : EL.2 = [] := hE.2 hb
    have hH2 : Hp Z EL D' vm0 U.heap := ⟨hH'.1, by rw [hn0]; exact fun p hp => (by cases hp), fun x hx => ⟨(hH'.2.2.1 x hx).1, fun w => ⟨((hH'.2.2.1 x hx).2 w).1, (by rw [hn0]; rintro ⟨p, hp, -⟩; cases hp), ((hH'.2.2.1 x hx).2 w).2.2⟩⟩, hH'.2.2.2⟩
    obtain ⟨s₂, o, q1, r⟩ := next v D' hq p l e s m args below meth c U vm0 k0 (locs ++ L) (cells + rm.cells) (slots + rm.slots)
      ⟨X2, hS, Nat.le_trans hk0 hg, hx, hby, hml, hown, hZ, r1, r2, r3, Fr.app hN hL, hH2, by omega, by omega, hE, hNI⟩
    exact ⟨s₂, o, stp.trans q1, r⟩
abbrev Rooms (R rm : Room) (Wt cm k n : Nat) : Prop := rm.frames + 1 ≤ R.frames ∧ Wt + (cm + 11) + rm.locals ≤ R.locals ∧ k + rm.cells ≤ R.cells ∧ n + rm.slots ≤ R.slots
abbrev okCls (y : MethodName) : Prop := y.cls ≠ "java/lang/invoke/MethodHandle" ∧ y.cls ≠ "java/lang/invoke/VarHandle"
theorem W.callS {ps : List FieldType} {r : Option FieldType} (Wt : Nat) (rest : List Value) (hd : decode bytes pc = .ok (.invokestatic idx, 3)) (wl : (Cond.methodLink own idx y).before a0 Z = true) (ws : (Cond.static y).before a0 Z = true) (wz : (Cond.initialized y.cls).before a0 Z = true) (wc : (Cond.code y cb cm cr).before a0 Z = true)
    (hC : Con Z EL y cb cm cr rm as D Q') (hy : okCls y) (hps : parseMethodDescriptor y.desc = some ⟨ps, r⟩) (hlen : as.length = ps.length) (hst : as.reverse ++ rest = st) (hls : ls.size = ml) (hW : (rest.map fun v => v.category).sum = Wt) (hr : Rooms R rm Wt cm k n)
    (next : ∀ v D', Q' v D' → W Z EL R own nm bytes ml ret Q D' (k + rm.cells) (n + rm.slots) (pc + 3) ls (v.toList ++ rest)) : W Z EL R own nm bytes ml ret Q D k n pc ls st := by
  intro p l e s m args below meth c T vm0 k0 locs cells slots A
  obtain ⟨X, hS, hk0, hx, hby, hml, hown, hZ, r1, r2, r3, hN, hH, hc, hl, hE, hNI⟩ := id A
  subst hst
  exact W.afterCall A (callSS X hx hown (mvT hZ wl) (mvT hZ ws) (mvT hZ wz) (mvT hZ wc) hy (conBack (Wt := Wt) (len := 3) hC hZ wc wz hE hr.1 hr.2.1) (g := mkF m pc ls (as.reverse ++ rest)) rfl (by rw [hml]; exact hls) (lenOf hps hlen) rfl (by show 2 * 0 + _ ≤ _; omega) (hb hby hd) (fun _ _ => ⟨rfl, hH, by show cells + _ ≤ _; have := hr.2.2.1; omega, by show slots + _ ≤ _; have := hr.2.2.2; omega⟩)) next
theorem W.callI {ps : List FieldType} {r : Option FieldType} {a : Addr} (Wt : Nat) (rest : List Value) (hd : decode bytes pc = .ok (.invokespecial idx, 3)) (hy1 : y.name = "<init>") (wl : (Cond.methodLink own idx y).before a0 Z = true) (wi : (Cond.instanceMethod y).before a0 Z = true) (wz : (Cond.initialized y.cls).before a0 Z = true) (wc : (Cond.code y cb cm none).before a0 Z = true)
    (hC : Con Z EL y cb cm none rm (.ref a :: as) D Q') (hy : okCls y) (hps : parseMethodDescriptor y.desc = some ⟨ps, r⟩) (hlen : as.length = ps.length) (hst : as.reverse ++ .ref a :: rest = st) (hls : ls.size = ml) (hW : (rest.map fun v => v.category).sum = Wt) (hr : Rooms R rm Wt cm k n)
    (next : ∀ v D', Q' v D' → W Z EL R own nm bytes ml ret Q D' (k + rm.cells) (n + rm.slots) (pc + 3) ls (v.toList ++ rest)) : W Z EL R own nm bytes ml ret Q D k n pc ls st := by
  intro p l e s m args below meth c T vm0 k0 locs cells slots A
  obtain ⟨X, hS, hk0, hx, hby, hml, hown, hZ, r1, r2, r3, hN, hH, hc, hl, hE, hNI⟩ := id A
  subst hst
  exact W.afterCall A (X.specialBackS hx hy1 hown (mvT hZ wl) (mvT hZ wi) (mvT hZ wc) hy (conBack (Wt := Wt) (len := 3) hC hZ wc wz hE hr.1 hr.2.1) (g := mkF m pc ls (as.reverse ++ .ref a :: rest)) rfl (by rw [hml]; exact hls) (Steps.refl _) (lenOf hps hlen) rfl (by show 2 * 0 + _ ≤ _; omega) (hb hby hd) (fun _ _ => ⟨rfl, hH, by show cells + _ ≤ _; have := hr.2.2.1; omega, by show slots + _ ≤ _; have := hr.2.2.2; omega⟩)) next
theorem W.callV {z : MethodName} {ps : List FieldType} {r : Option FieldType} {a : Addr} {C C' : String} (Wt : Nat) (rest : List Value) (hd : decode bytes pc = .ok (.invokevirtual idx, 3)) (wl : (Cond.methodLink own idx y).before a0 Z = true) (wdl : (Cond.declares y).before a0 Z = true) (wsy : (Cond.selects C' y y).before a0 Z = true) (wse : (Cond.selects C y z).before a0 Z = true) (wi : (Cond.instanceMethod z).before a0 Z = true) (wz : (Cond.initialized z.cls).before a0 Z = true) (wc : (Cond.code z cb cm cr).before a0 Z = true)
    (hI : ∀ vm h, Hp Z EL D vm h → Exa Z h a C) (hC : Con Z EL z cb cm cr rm (.ref a :: as) D Q') (hy : okCls y) (hps : parseMethodDescriptor y.desc = some ⟨ps, r⟩) (hlen : as.length = ps.length) (hst : as.reverse ++ .ref a :: rest = st) (hls : ls.size = ml) (hW : (rest.map fun v => v.category).sum = Wt) (hr : Rooms R rm Wt cm k n)
    (next : ∀ v D', Q' v D' → W Z EL R own nm bytes ml ret Q D' (k + rm.cells) (n + rm.slots) (pc + 3) ls (v.toList ++ rest)) : W Z EL R own nm bytes ml ret Q D k n pc ls st := by
  intro p l e s m args below meth c T vm0 k0 locs cells slots A
  obtain ⟨X, hS, hk0, hx, hby, hml, hown, hZ, r1, r2, r3, hN, hH, hc, hl, hE, hNI⟩ := id A
  subst hst
  obtain ⟨cq, kq, qa, qb, qc⟩ := isOf (s := s.setVm vm0) hZ rfl (hI _ _ hH)
  exact W.afterCall A (X.virtualBackS hx hown (mvT hZ wl) (mvT hZ wdl) (notFace_of_selects (args := #[]) (mvT hZ wsy)) (mvT hZ wse) (mvT hZ wi) hy (conBack (Wt := Wt) (len := 3) hC hZ wc wz hE hr.1 hr.2.1) qa qc (g := mkF m pc ls (as.reverse ++ .ref a :: rest)) rfl (by rw [hml]; exact hls) (Steps.refl _) (lenOf hps hlen) rfl (by show 2 * 0 + _ ≤ _; omega) (hb hby hd) (fun _ _ => ⟨rfl, hH, by show cells + _ ≤ _; have := hr.2.2.1; omega, by show slots + _ ≤ _; have := hr.2.2.2; omega⟩)) next
theorem W.callVN {z y2 : MethodName} {ps : List FieldType} {r : Option FieldType} {a : Addr} {C C' : String} (Wt : Nat) (rest : List Value) (hd : decode bytes pc = .ok (.invokevirtual idx, 3)) (wl : (Cond.methodLink own idx y).before a0 Z = true) (wdl : (Cond.declares y).before a0 Z = true) (hc2 : y2.cls = y.cls) (wi2 : (Cond.instanceMethod y2).before a0 Z = true) (wsy : (Cond.selects C' y2 y2).before a0 Z = true) (wse : (Cond.selects C y z).before a0 Z = true) (wi : (Cond.instanceMethod z).before a0 Z = true) (wz : (Cond.initialized z.cls).before a0 Z = true) (wc : (Cond.code z cb cm cr).before a0 Z = true)
    (hI : ∀ vm h, Hp Z EL D vm h → Exa Z h a C) (hC : Con Z EL z cb cm cr rm (.ref a :: as) D Q') (hy : okCls y) (hps : parseMethodDescriptor y.desc = some ⟨ps, r⟩) (hlen : as.length = ps.length) (hst : as.reverse ++ .ref a :: rest = st) (hls : ls.size = ml) (hW : (rest.map fun v => v.category).sum = Wt) (hr : Rooms R rm Wt cm k n)
    (next : ∀ v D', Q' v D' → W Z EL R own nm bytes ml ret Q D' (k + rm.cells) (n + rm.slots) (pc + 3) ls (v.toList ++ rest)) : W Z EL R own nm bytes ml ret Q D k n pc ls st := by
  intro p l e s m args below meth c T vm0 k0 locs cells slots A
  obtain ⟨X, hS, hk0, hx, hby, hml, hown, hZ, r1, r2, r3, hN, hH, hc, hl, hE, hNI⟩ := id A
  subst hst
  obtain ⟨cq, kq, qa, qb, qc⟩ := isOf (s := s.setVm vm0) hZ rfl (hI _ _ hH)
  exact W.afterCall A (X.virtualBackS hx hown (mvT hZ wl) (mvT hZ wdl) (notFace_by (args := #[]) hc2 (mvT hZ wi2) (mvT hZ wsy)) (mvT hZ wse) (mvT hZ wi) hy (conBack (Wt := Wt) (len := 3) hC hZ wc wz hE hr.1 hr.2.1) qa qc (g := mkF m pc ls (as.reverse ++ .ref a :: rest)) rfl (by rw [hml]; exact hls) (Steps.refl _) (lenOf hps hlen) rfl (by show 2 * 0 + _ ≤ _; omega) (hb hby hd) (fun _ _ => ⟨rfl, hH, by show cells + _ ≤ _; have := hr.2.2.1; omega, by show slots + _ ≤ _; have := hr.2.2.2; omega⟩)) next
theorem W.callUp {ps : List FieldType} {r : Option FieldType} {a : Addr} {K : String} (Wt : Nat) (rest : List Value) (hd : decode bytes pc = .ok (.invokespecial idx, 3)) (wl : (Cond.methodLink own idx y).before a0 Z = true) (wsm : (Cond.sameMethod y.cls y.cls y.name y.desc).before a0 Z = true) (wi : (Cond.instanceMethod y).before a0 Z = true) (wsu : (Cond.superclass own y.cls).before a0 Z = true) (hy1 : y.name ≠ "<init>") (wz : (Cond.initialized y.cls).before a0 Z = true) (wc : (Cond.code y cb cm cr).before a0 Z = true)
    (hI : ∀ vm h, Hp Z EL D vm h → Ins Z h a K true) (hC : Con Z EL y cb cm cr rm (.ref a :: as) D Q') (hps : parseMethodDescriptor y.desc = some ⟨ps, r⟩) (hlen : as.length = ps.length) (hst : as.reverse ++ .ref a :: rest = st) (hls : ls.size = ml) (hW : (rest.map fun v => v.category).sum = Wt) (hr : Rooms R rm Wt cm k n)
    (next : ∀ v D', Q' v D' → W Z EL R own nm bytes ml ret Q D' (k + rm.cells) (n + rm.slots) (pc + 3) ls (v.toList ++ rest)) : W Z EL R own nm bytes ml ret Q D k n pc ls st := by
  intro p l e s m args below meth c T vm0 k0 locs cells slots A
  obtain ⟨X, hS, hk0, hx, hby, hml, hown, hZ, r1, r2, r3, hN, hH, hc, hl, hE, hNI⟩ := id A
  subst hst
  exact W.afterCall A (superBackS (s := s.setVm vm0) X hx hZ hown wl wsm wi wsu hy1 (conBack (Wt := Wt) (len := 3) hC hZ wc wz hE hr.1 hr.2.1) rfl (hI _ _ hH) (g := mkF m pc ls (as.reverse ++ .ref a :: rest)) rfl (by rw [hml]; exact hls) wc (lenOf hps hlen) rfl (by show 2 * 0 + _ ≤ _; omega) (hb hby hd) (fun _ _ => ⟨rfl, hH, by show cells + _ ≤ _; have := hr.2.2.1; omega, by show slots + _ ≤ _; have := hr.2.2.2; omega⟩)) next
theorem W.callP {ps : List FieldType} {r : Option FieldType} {a : Addr} {K C : String} (Wt : Nat) (rest : List Value) (hd : decode bytes pc = .ok (.invokevirtual idx, 3)) (wl : (Cond.methodLink own idx y).before a0 Z = true) (wi : (Cond.instanceMethod y).before a0 Z = true) (wse : (Cond.selects C y y).before a0 Z = true) (wp : (Cond.privateMethod y).before a0 Z = true) (wz : (Cond.initialized y.cls).before a0 Z = true) (wc : (Cond.code y cb cm cr).before a0 Z = true)
    (hI : ∀ vm h, Hp Z EL D vm h → Exa Z h a K) (hC : Con Z EL y cb cm cr rm (.ref a :: as) D Q') (hy : okCls y) (hps : parseMethodDescriptor y.desc = some ⟨ps, r⟩) (hlen : as.length = ps.length) (hst : as.reverse ++ .ref a :: rest = st) (hls : ls.size = ml) (hW : (rest.map fun v => v.category).sum = Wt) (hr : Rooms R rm Wt cm k n)
    (next : ∀ v D', Q' v D' → W Z EL R own nm bytes ml ret Q D' (k + rm.cells) (n + rm.slots) (pc + 3) ls (v.toList ++ rest)) : W Z EL R own nm bytes ml ret Q D k n pc ls st := by
  intro p l e s m args below meth c T vm0 k0 locs cells slots A
  obtain ⟨X, hS, hk0, hx, hby, hml, hown, hZ, r1, r2, r3, hN, hH, hc, hl, hE, hNI⟩ := id A
  subst hst
  obtain ⟨cell, hcell, hobj⟩ := (hI _ _ hH).cell
  have hinst : (Cond.instanceMethod y).before args (s.setVm vm0) = true := mvT hZ wi
  have hpriv : (s.setVm vm0).PrivateAt y := Cond.privateMethod_at (args := args) (mvP hZ wp)
  obtain ⟨mk, _, hnamed, -⟩ := Cond.instanceMethod_spec hinst
  obtain ⟨kr, hkr, hni⟩ := notFace_of_selects (args := args) (mvT hZ wse) mk hnamed
  have hsel := selects_self_of_private (findClass_of_methodNamed hnamed) hkr hni hpriv hinst hy
  exact W.afterCall A (X.privateBackS hx hown (mvT hZ wl) hinst hsel hpriv (mvT hZ wc) hy (conBack (Wt := Wt) (len := 3) hC hZ wc wz hE hr.1 hr.2.1) (g := mkF m pc ls (as.reverse ++ .ref a :: rest)) rfl (by rw [hml]; exact hls) (Steps.refl _) hcell hobj (lenOf hps hlen) rfl (by show 2 * 0 + _ ≤ _; omega) (hb hby hd) (fun _ _ => ⟨rfl, hH, by show cells + _ ≤ _; have := hr.2.2.1; omega, by show slots + _ ≤ _; have := hr.2.2.2; omega⟩)) next
end Calls
end Jvm.Wk
namespace Jvm.Wk
open Jvm Jvm.ClassFile Sem Op Lib Bundle Jvm.Free Jvm.Stand Jvm.LawKit Jvm.RoadKit
abbrev vi (x : Int32) : Value := .int x
abbrev vr (a : Addr) : Value := .ref a
abbrev uu : Slot := .unset
abbrev ar (ad : String) (ty : FieldType) (vs : List Value) : Desc := .inr (ad, ty, vs)
theorem m0 {α : Type} {x : α} {l : List α} : x ∈ x :: l := List.mem_cons_self ..
theorem mS {α : Type} {x y : α} {l : List α} (h : x ∈ l) : x ∈ y :: l := List.mem_cons_of_mem _ h
theorem m1 {α : Type} {x y1 : α} {l : List α} : x ∈ y1 :: x :: l := mS m0
theorem m2 {α : Type} {x y1 y2 : α} {l : List α} : x ∈ y1 :: y2 :: x :: l := mS m1
theorem m3 {α : Type} {x y1 y2 y3 : α} {l : List α} : x ∈ y1 :: y2 :: y3 :: x :: l := mS m2
theorem i_lt {x y : Int32} (h : x < y) : x.toInt < y.toInt := Int32.lt_iff_toInt_lt.mp h
theorem i_nlt {x y : Int32} (h : ¬ x < y) : y.toInt ≤ x.toInt := by rw [Int32.lt_iff_toInt_lt] at h; omega
theorem i_eq {x y : Int32} (h : x = y) : x.toInt = y.toInt := by rw [h]
theorem i_ne {x y : Int32} (h : ¬ x = y) : x.toInt ≠ y.toInt := fun e => h (Int32.toInt_inj.mp e)
theorem eqI {x y : Int32} (h : x.toInt = y.toInt) : x = y := Int32.toInt_inj.mp h
section C
variable {x y : Int32}
theorem y_eq (h : x.toInt = y.toInt) : Cd .eq x y := eqI h
theorem n_eq (h : x.toInt ≠ y.toInt) : ¬ Cd .eq x y := fun e => h (i_eq e)
theorem y_ne (h : x.toInt ≠ y.toInt) : Cd .ne x y := fun e => h (i_eq e)
theorem n_ne (h : x.toInt = y.toInt) : ¬ Cd .ne x y := fun e => e (eqI h)
theorem y_lt (h : x.toInt < y.toInt) : Cd .lt x y := Int32.lt_iff_toInt_lt.mpr h
theorem n_lt (h : y.toInt ≤ x.toInt) : ¬ Cd .lt x y := fun e => by have := i_lt e; omega
theorem y_ge (h : y.toInt ≤ x.toInt) : Cd .ge x y := fun e => by have := i_lt e; omega
theorem n_ge (h : x.toInt < y.toInt) : ¬ Cd .ge x y := fun e => e (Int32.lt_iff_toInt_lt.mpr h)
theorem y_gt (h : y.toInt < x.toInt) : Cd .gt x y := Int32.lt_iff_toInt_lt.mpr h
theorem n_gt (h : x.toInt ≤ y.toInt) : ¬ Cd .gt x y := fun e => by have := i_lt e; omega
theorem y_le (h : x.toInt ≤ y.toInt) : Cd .le x y := fun e => by have := i_lt e; omega
theorem t_ne (h : Cd .ne x y) : x.toInt ≠ y.toInt := i_ne h
theorem f_ne (h : ¬ Cd .ne x y) : x.toInt = y.toInt := i_eq (Classical.not_not.mp h)
theorem t_lt (h : Cd .lt x y) : x.toInt < y.toInt := i_lt h
theorem f_lt (h : ¬ Cd .lt x y) : y.toInt ≤ x.toInt := i_nlt h
theorem t_ge (h : Cd .ge x y) : y.toInt ≤ x.toInt := i_nlt h
theorem f_ge (h : ¬ Cd .ge x y) : x.toInt < y.toInt := i_lt (Classical.not_not.mp h)
theorem t_gt (h : Cd .gt x y) : y.toInt < x.toInt := i_lt h
theorem f_gt (h : ¬ Cd .gt x y) : x.toInt ≤ y.toInt := i_nlt h
theorem t_le (h : Cd .le x y) : x.toInt ≤ y.toInt := i_nlt h
theorem f_le (h : ¬ Cd .le x y) : y.toInt < x.toInt := i_lt (Classical.not_not.mp h)
end C
theorem a_add (x y : Int32) : ((x + y).toInt - (x.toInt + y.toInt)) % 4294967296 = 0 ∧ -2147483648 ≤ (x + y).toInt ∧ (x + y).toInt < 2147483648 := ⟨c_iadd x y, rng32 _⟩
theorem a_sub (x y : Int32) : ((x - y).toInt - (x.toInt - y.toInt)) % 4294967296 = 0 ∧ -2147483648 ≤ (x - y).toInt ∧ (x - y).toInt < 2147483648 := ⟨c_isub x y, rng32 _⟩
theorem a_and (x m : Int32) (k : Nat) (M : Int) (hk : k ≤ 31) (hm : m.toBitVec.toNat = 2 ^ k - 1) (hM : ((2 ^ k : Nat) : Int) = M) : (x &&& m).toInt = x.toInt % M := by rw [← hM]; exact c_mask x m k hk hm
theorem a_shr (x q : Int32) (k : Nat) (M : Int) (hk : q.toBitVec.toNat % 32 = k) (hM : ((2 ^ k : Nat) : Int) = M) : (x >>> (q &&& 31)).toInt = x.toInt / M := by rw [← hM]; exact c_ishr x q k hk
theorem a_shl (x q : Int32) (k : Nat) (M : Int) (hk : q.toBitVec.toNat % 32 = k) (hM : ((2 ^ k : Nat) : Int) = M) : ((x <<< (q &&& 31)).toInt - x.toInt * M) % 4294967296 = 0 ∧ -2147483648 ≤ (x <<< (q &&& 31)).toInt ∧ (x <<< (q &&& 31)).toInt < 2147483648 := by rw [← hM]; exact ⟨c_ishl x q k hk, rng32 _⟩
theorem a_i2c (x : Int32) : (x.toUInt32.toUInt16.toUInt32.toInt32.toInt - x.toInt) % 65536 = 0 ∧ 0 ≤ x.toUInt32.toUInt16.toUInt32.toInt32.toInt ∧ x.toUInt32.toUInt16.toUInt32.toInt32.toInt < 65536 := c_i2c x
theorem a_i2b (x : Int32) : (x.toInt8.toInt32.toInt - x.toInt) % 256 = 0 ∧ -128 ≤ x.toInt8.toInt32.toInt ∧ x.toInt8.toInt32.toInt < 128 := c_i2b x
theorem z_i2c {x : Int32} (h : 0 ≤ x.toInt ∧ x.toInt ≤ 65535) : x.toUInt32.toUInt16.toUInt32.toInt32 = x := eqI (by have := a_i2c x; omega)
theorem z_i2b {x : Int32} (h : -128 ≤ x.toInt ∧ x.toInt ≤ 127) : x.toInt8.toInt32 = x := eqI (by have := a_i2b x; omega)
theorem z_b255 {x : Int32} (h : 0 ≤ x.toInt ∧ x.toInt ≤ 255) : x.toInt8.toInt32 &&& 255 = x := eqI (by have := a_i2b x; have := a_and x.toInt8.toInt32 255 8 256 (by decide) (by decide) (by decide); omega)
theorem z_narC {x : Int32} (h : 0 ≤ x.toInt ∧ x.toInt ≤ 65535) : nar .char x = x := z_i2c h
theorem z_narB {x : Int32} (h : -128 ≤ x.toInt ∧ x.toInt ≤ 127) : nar .byte x = x := z_i2b h
theorem nw_char {x : Int32} (h : 0 ≤ x.toInt ∧ x.toInt ≤ 65535) : narrow .char (.int x) = .int x := by have e := z_i2c h; have := XT.narrow_c x; rw [e] at this; exact this
theorem nw_byte {x : Int32} (h : -128 ≤ x.toInt ∧ x.toInt ≤ 127) : narrow .byte (.int x) = .int x := by have e := z_i2b h; have := XT.narrow_b x; rw [e] at this; exact this
theorem nw_bool {x : Int32} (h : 0 ≤ x.toInt ∧ x.toInt ≤ 1) : narrow .boolean (.int x) = .int x := by
  have : x = 0 ∨ x = 1 := by
    rcases (by omega : x.toInt = 0 ∨ x.toInt = 1) with q | q
    · exact Or.inl (eqI q)
    · exact Or.inr (eqI q)
  rcases this with rfl | rfl <;> rfl
theorem ft_byte {x : Int32} (h : -128 ≤ x.toInt ∧ x.toInt ≤ 127) : fits .byte (.int x) = true := by have := fits_nar_byte x; rw [z_i2b h] at this; exact this
end Jvm.Wk
namespace Jvm.Wk
open Jvm Jvm.ClassFile Sem Op Lib Bundle Jvm.Free Jvm.Stand Jvm.LawKit Jvm.RoadKit
section Walk
variable {Z : State} {EL : Bool × List (String × Nat)} {R : Room} {own nm : String} {bytes : ByteArray} {ml : Nat} {ret : Option FieldType} {Q : Option Value → List Ent → Prop} {D D' : List Ent} {k n pc : Nat} {ls ls' : Array Slot} {st : List Value} {a0 : Array Value}
theorem W.dropAt (i : Nat) (hD : D.eraseIdx i = D') (next : W Z EL R own nm bytes ml ret Q D' k n pc ls st) : W Z EL R own nm bytes ml ret Q D k n pc ls st := W.heap (fun _ _ H => hD ▸ H.sub (List.eraseIdx_sublist ..)) next
theorem Hp.ne {i j : Nat} {x y : Ent} {vm : Vm} {h : Heap} (H : Hp Z EL D vm h) (hij : i ≠ j) (hi : D[i]? = some x) (hj : D[j]? = some y) (w : x.2.1 = true ∨ y.2.1 = true) : x.1 ≠ y.1 := by
  have P := H.2.2.2
  obtain ⟨i1, rfl⟩ := List.getElem?_eq_some_iff.mp hi
  obtain ⟨j1, rfl⟩ := List.getElem?_eq_some_iff.mp hj
  rw [List.pairwise_iff_getElem] at P
  rcases Nat.lt_or_gt_of_ne hij with q | q
  · exact P i j i1 j1 q w
  · exact (P j i j1 i1 q w.symm).symm
theorem wS_of (h1 : (Cond.initialized "java/lang/String").before a0 Z = true) (h2 : (Cond.instantiable "java/lang/String" 4).before a0 Z = true) (h3 : (Cond.arrayClass .byte).before a0 Z = true) (h4 : (Cond.laysFinal "java/lang/String" "java/lang/String" "value" "[B").before a0 Z = true) (h5 : (Cond.laysFinal "java/lang/String" "java/lang/String" "coder" "B").before a0 Z = true) (h6 : (Cond.soleField "java/lang/String" "value").before a0 Z = true) (h7 : (Cond.soleField "java/lang/String" "coder").before a0 Z = true) :
    ∀ a ∈ Bundle.stringAtoms, a.before a0 Z = true := fun a ha => by
  simp only [Bundle.stringAtoms, Bundle.sN, List.mem_cons, List.not_mem_nil, or_false] at ha
  rcases ha with rfl | rfl | rfl | rfl | rfl | rfl | rfl <;> assumption
theorem W.iaddK {x y : Int32} (z : Int32) (hd : decode bytes pc = .ok (.iadd, 1)) (hz : x + y = z) (next : W Z EL R own nm bytes ml ret Q D k n (pc + 1) ls (.int z :: st)) : W Z EL R own nm bytes ml ret Q D k n pc ls (.int y :: .int x :: st) := W.iadd hd (hz ▸ next)
theorem W.isubK {x y : Int32} (z : Int32) (hd : decode bytes pc = .ok (.isub, 1)) (hz : x - y = z) (next : W Z EL R own nm bytes ml ret Q D k n (pc + 1) ls (.int z :: st)) : W Z EL R own nm bytes ml ret Q D k n pc ls (.int y :: .int x :: st) := W.isub hd (hz ▸ next)
theorem W.iandK {x y : Int32} (z : Int32) (hd : decode bytes pc = .ok (.iand, 1)) (hz : x &&& y = z) (next : W Z EL R own nm bytes ml ret Q D k n (pc + 1) ls (.int z :: st)) : W Z EL R own nm bytes ml ret Q D k n pc ls (.int y :: .int x :: st) := W.iand hd (hz ▸ next)
theorem W.iorK {x y : Int32} (z : Int32) (hd : decode bytes pc = .ok (.ior, 1)) (hz : x ||| y = z) (next : W Z EL R own nm bytes ml ret Q D k n (pc + 1) ls (.int z :: st)) : W Z EL R own nm bytes ml ret Q D k n pc ls (.int y :: .int x :: st) := W.ior hd (hz ▸ next)
theorem W.ishlK {x y : Int32} (z : Int32) (hd : decode bytes pc = .ok (.ishl, 1)) (hz : x <<< (y &&& 31) = z) (next : W Z EL R own nm bytes ml ret Q D k n (pc + 1) ls (.int z :: st)) : W Z EL R own nm bytes ml ret Q D k n pc ls (.int y :: .int x :: st) := W.ishl hd (hz ▸ next)
theorem W.ishrK {x y : Int32} (z : Int32) (hd : decode bytes pc = .ok (.ishr, 1)) (hz : x >>> (y &&& 31) = z) (next : W Z EL R own nm bytes ml ret Q D k n (pc + 1) ls (.int z :: st)) : W Z EL R own nm bytes ml ret Q D k n pc ls (.int y :: .int x :: st) := W.ishr hd (hz ▸ next)
theorem W.iushrK {x y : Int32} (z : Int32) (hd : decode bytes pc = .ok (.iushr, 1)) (hz : XT.ushr x y = z) (next : W Z EL R own nm bytes ml ret Q D k n (pc + 1) ls (.int z :: st)) : W Z EL R own nm bytes ml ret Q D k n pc ls (.int y :: .int x :: st) := W.iushr hd (hz ▸ next)
theorem W.i2bK {x : Int32} (z : Int32) (hd : decode bytes pc = .ok (.i2b, 1)) (hz : x.toInt8.toInt32 = z) (next : W Z EL R own nm bytes ml ret Q D k n (pc + 1) ls (.int z :: st)) : W Z EL R own nm bytes ml ret Q D k n pc ls (.int x :: st) := W.i2b hd (hz ▸ next)
theorem W.i2cK {x : Int32} (z : Int32) (hd : decode bytes pc = .ok (.i2c, 1)) (hz : x.toUInt32.toUInt16.toUInt32.toInt32 = z) (next : W Z EL R own nm bytes ml ret Q D k n (pc + 1) ls (.int z :: st)) : W Z EL R own nm bytes ml ret Q D k n pc ls (.int x :: st) := W.i2c hd (hz ▸ next)
theorem W.iincK {i : Nat} {cst : Int} {x : Int32} (v r : Int32) (hd : decode bytes pc = .ok (.iinc i cst, 3)) (hv : Int32.ofInt cst = v) (hl : ls[i]? = some (.val (.int x))) (hr : x + v = r) (hl' : storeLocals ls i (.int r) = some ls') (next : W Z EL R own nm bytes ml ret Q D k n (pc + 3) ls' st) : W Z EL R own nm bytes ml ret Q D k n pc ls st :=
  W.iinc v hd hv hl (hr ▸ hl') next
end Walk
theorem nn32 {x : Int32} (h : 0 ≤ x.toInt) : x.toInt = x.toBitVec.toNat := by
  have e : x.toInt = x.toBitVec.toInt := rfl
  have e2 := BitVec.toInt_eq_toNat_cond x.toBitVec
  have := x.toBitVec.isLt
  split at e2 <;> omega
theorem a_orD (x y : Int32) (h1 : 0 ≤ x.toInt ∧ x.toInt < 256) (h2 : 0 ≤ y.toInt) (h3 : y.toInt % 256 = 0) : (x ||| y).toInt = x.toInt + y.toInt := by
  have ex := nn32 h1.1
  have ey := nn32 h2
  have hb : (x ||| y).toBitVec.toNat = x.toBitVec.toNat + y.toBitVec.toNat := by
    have e : (x ||| y).toBitVec.toNat = x.toBitVec.toNat ||| y.toBitVec.toNat := by simp
    rw [e]
    have hy : y.toBitVec.toNat = (y.toBitVec.toNat / 256) <<< 8 := by rw [Nat.shiftLeft_eq]; omega
    have hx : x.toBitVec.toNat < 2 ^ 8 := by omega
    rw [hy, Nat.or_comm, ← Nat.shiftLeft_add_eq_or_of_lt hx]; omega
  have hlt : x.toBitVec.toNat + y.toBitVec.toNat < 2147483648 := by
    have := x.toInt_lt; have := y.toInt_lt
    omega
  have e : (x ||| y).toInt = (x ||| y).toBitVec.toInt := rfl
  rw [e, BitVec.toInt_eq_toNat_cond, hb, if_pos (by omega)]; omega
theorem z_or8 {a y x : Int32} (h : 0 ≤ x.toInt ∧ x.toInt ≤ 65535) (ha : a.toInt = x.toInt % 256) (hy : y.toInt = x.toInt / 256 * 256) : a ||| y = x := eqI (by rw [a_orD a y (by omega) (by omega) (by omega)]; omega)
def lc (c : Int32) : Int32 := if 65 ≤ c.toInt ∧ c.toInt ≤ 90 then c + 32 else c
theorem a_lc (c : Int32) : (65 ≤ c.toInt ∧ c.toInt ≤ 90 ∧ (lc c).toInt = c.toInt + 32) ∨ ((c.toInt < 65 ∨ 90 < c.toInt) ∧ (lc c).toInt = c.toInt) := by
  unfold lc
  split
  · rename_i q
    have := a_add c 32
    have e : (32 : Int32).toInt = 32 := by decide
    exact Or.inl ⟨q.1, q.2, by omega⟩
  · rename_i q
    exact Or.inr ⟨by omega, rfl⟩
theorem lc_of {c v : Int32} (h : (65 ≤ c.toInt ∧ c.toInt ≤ 90 ∧ v.toInt = c.toInt + 32) ∨ ((c.toInt < 65 ∨ 90 < c.toInt) ∧ v.toInt = c.toInt)) : v = lc c := eqI (by have := a_lc c; omega)
theorem W.top {Z : State} {EL : Bool × List (String × Nat)} {R : Room} {own nm : String} {bytes : ByteArray} {ml : Nat} {ret : Option FieldType} {Q : Option Value → List Ent → Prop} {D : List Ent} {k n pc : Nat} {ls : Array Slot} {st : List Value} {x y : Int32} (h : x = y) (next : W Z EL R own nm bytes ml ret Q D k n pc ls (.int y :: st)) : W Z EL R own nm bytes ml ret Q D k n pc ls (.int x :: st) := h ▸ next
theorem z_shl0 (x : Int32) : x <<< ((0 : Int32) &&& 31) = x := by
  apply Int32.toBitVec_inj.mp; simp
theorem z_shr0 (x : Int32) : x >>> ((0 : Int32) &&& 31) = x := eqI (by have := a_shr x 0 0 1 (by decide) (by decide); omega)
section L
variable {x y : Int64}
end L
def si (Z : State) (C n d : String) : Int32 := match (Term.static C n d).eval #[] Z none [] Z with | some (.int x) => x | _ => 0
def sa (Z : State) (C n d : String) : Addr := match (Term.static C n d).eval #[] Z none [] Z with | some (.ref a) => a | _ => 0
def sv (Z : State) (C n d : String) : Value := match (Term.static C n d).eval #[] Z none [] Z with | some v => v | none => .null
theorem eval_static {Z : State} {a b : Array Value} {C n d : String} : (Term.static C n d).eval a Z none [] Z = (Term.static C n d).eval b Z none [] Z := rfl
theorem si_of {Z : State} {C n d : String} {x : Int32} {a : Array Value} (h : (Term.static C n d).eval a Z none [] Z = some (.int x)) : si Z C n d = x := by
  unfold si; rw [eval_static (b := a), h]
theorem sa_of {Z : State} {C n d : String} {x : Addr} {a : Array Value} (h : (Term.static C n d).eval a Z none [] Z = some (.ref x)) : sa Z C n d = x := by
  unfold sa; rw [eval_static (b := a), h]
theorem sv_of {Z : State} {C n d : String} {x : Value} {a : Array Value} (h : (Term.static C n d).eval a Z none [] Z = some x) : sv Z C n d = x := by
  unfold sv; rw [eval_static (b := a), h]
end Jvm.Wk
namespace Jvm.Wk
open Jvm Jvm.ClassFile Sem Op Lib Bundle Jvm.Free Jvm.Stand Jvm.LawKit Jvm.RoadKit
section Natives
variable {Z : State} {EL : Bool × List (String × Nat)} {R : Room} {own nm : String} {bytes : ByteArray} {ml : Nat} {ret : Option FieldType} {Q : Option Value → List Ent → Prop} {D D' : List Ent} {k n pc : Nat} {ls ls' : Array Slot} {st : List Value} {a0 : Array Value} {idx : Nat}
theorem W.clone {a : Addr} {wa : Bool} {ad : String} {ty : FieldType} {vs : List Value} (Wt N : Nat) (hd : decode bytes pc = .ok (.invokevirtual idx, 3))
    (w1 : (Cond.methodLink own idx ⟨ad, "clone", "()Ljava/lang/Object;"⟩).before a0 Z = true) (w2 : (Cond.sameMethod ad "java/lang/Object" "clone" "()Ljava/lang/Object;").before a0 Z = true) (w3 : (Cond.native ⟨"java/lang/Object", "clone", "()Ljava/lang/Object;"⟩).before a0 Z = true)
    (w4 : (Cond.instanceMethod ⟨"java/lang/Object", "clone", "()Ljava/lang/Object;"⟩).before a0 Z = true) (w5 : (Cond.selects ad ⟨ad, "clone", "()Ljava/lang/Object;"⟩ ⟨"java/lang/Object", "clone", "()Ljava/lang/Object;"⟩).before a0 Z = true) (w6 : (Cond.castable ad "java/lang/Cloneable").before a0 Z = true)
    (hm : (a, wa, .inr (ad, ty, vs)) ∈ D) (hne : ad ≠ "") (hN : vs.length = N) (hls : ls.size = ml) (hW : (st.map fun v => v.category).sum = Wt) (hr : (1 ≤ R.frames ∧ Wt + 14 ≤ R.locals) ∧ k + 1 ≤ R.cells ∧ n + N ≤ R.slots)
    (next : ∀ b, W Z EL R own nm bytes ml ret Q ((b, true, .inr (ad, ty, vs)) :: D) (k + 1) (n + N) (pc + 3) ls (.ref b :: st)) : W Z EL R own nm bytes ml ret Q D k n pc ls (.ref a :: st) := by
  intro p l e s m args below meth c T vm0 k0 locs cells slots A
  obtain ⟨X, hS, hk0, hx, hby, hml, hown, hZ, r1, r2, r3, hN', hH, hc, hl, hE, hNI⟩ := A
  have SA := (hH.2.2.1 _ hm).1
  obtain ⟨ka, FA⟩ := Sat.arv .null SA
  have va : (Nat.toInt32 vs.length).toNatClampNeg = vs.length := by obtain ⟨_, _, _, q, _⟩ := SA; exact (Idx.of_nat q).2
  have EA : Exa Z T.heap a ad := by obtain ⟨_, _, _, _, _, r⟩ := SA; exact r hne
  obtain ⟨T', h', X', e', E, F', E', stp⟩ := cloneH X hx hZ hown w1 w2 w3 w4 w5 w6 rfl FA.arh EA (g := mkF m pc ls (.ref a :: st)) rfl (by rw [hml]; exact hls) rfl (hb hby hd) hr.1.1 (W := Wt) (cap := N) (by show 2 * 0 + _ ≤ _; omega) hr.1.2 (by rw [va]; omega) (by omega) (by omega)
  have S' : Sat Z h' T.heap.size (.inr (ad, ty, vs)) := Sat.of_arv (z := Nat.toInt32 vs.length) F' va fun _ => E'
  have H' := hH.new E S' trivial
  obtain ⟨s₂, o, q1, r⟩ := next T.heap.size p l e s m args below meth c T' vm0 k0 locs (cells + 1) (slots + N) ⟨X', hS, by rw [e']; exact Nat.le_trans hk0 E.1, hx, hby, hml, hown, hZ, r1, r2, r3, hN', by rw [e']; exact H', by omega, by omega, hE, hNI⟩
  exact ⟨s₂, o, stp _ q1, r⟩
end Natives
end Jvm.Wk
namespace Jvm.Wk
open Jvm Jvm.ClassFile Sem Op Lib Bundle Jvm.Free Jvm.Stand Jvm.LawKit Jvm.RoadKit
section Start
variable {s : State} {args : Array Value} {C n d C' n' d' K : String}
theorem sf_int (hi : (Cond.initializedFor C n d).before args s = true) (h : (Cond.isInt (.static C n d)).before args s = true) : Sta s s.heap C n d (.int (si s C n d)) := by
  obtain ⟨x, e⟩ := is_v (Cond.before_iff.mp h)
  rw [si_of e]; exact Sta.start e (Or.inl hi)
theorem sf_nz (h : (Cond.isInt (.static C n d)).before args s = true) (hz : (Cond.not (.eq (.static C n d) (.int 0))).before args s = true) : (si s C n d).toInt ≠ 0 := by
  obtain ⟨x, e⟩ := is_v (Cond.before_iff.mp h)
  rw [si_of e]
  intro q
  have : x = 0 := eqI q
  subst this
  have h2 := not_v (Cond.before_iff.mp hz)
  rw [eq_i e (Term.int_eval 0) rfl] at h2
  cases h2
theorem sf_isref (h : (Cond.isRef (.static C n d)).before args s = true) : (sv s C n d).isRef = true := by
  obtain ⟨x, e, r⟩ := isR_v (Cond.before_iff.mp h)
  rw [sv_of e]; exact r
theorem sf_ref (hi : (Cond.initializedFor C n d).before args s = true) (h : (Cond.isRef (.static C n d)).before args s = true) : Sta s s.heap C n d (sv s C n d) := by
  obtain ⟨x, e, r⟩ := isR_v (Cond.before_iff.mp h)
  rw [sv_of e]; exact Sta.start e (Or.inl hi)
theorem sf_enum (hz : (Cond.initialized C).before args s = true) (hl : (Cond.laysStatic C n d).before args s = true) (h : (Cond.exactly (.static C n d) K).value args s none s [] = some true) : Sta s s.heap C n d (.ref (sa s C n d)) := by
  obtain ⟨x, e⟩ := exa_v h
  rw [sa_of e]; exact Sta.start e (Or.inr ⟨hz, hl⟩)
end Start
theorem CHv.nil {Z : State} {vm : Vm} {h : Heap} : CHv Z [] vm h := fun p hp => by cases hp
theorem Hp.start {Z : State} {EL : Bool × List (String × Nat)} (H : CHv Z EL.2 Z.vm Z.heap) : Hp Z EL [] Z.vm Z.heap := ⟨⟨Nat.le_refl _, fun _ _ q => q⟩, H, fun x hx => (by cases hx), List.Pairwise.nil⟩
end Jvm.Wk
namespace Jvm.Wk
open Jvm Jvm.ClassFile Sem Op Lib Bundle Jvm.Free Jvm.Stand Jvm.LawKit Jvm.RoadKit
theorem Con.mono {Z : State} {EL : Bool × List (String × Nat)} {y : MethodName} {bytes : ByteArray} {maxL : Nat} {ret : Option FieldType} {rm : Room} {as : List Value} {D : List Ent} {Q Q' : Option Value → List Ent → Prop} (h : Con Z EL y bytes maxL ret rm as D Q) (q : ∀ v D', Q v D' → Q' v D') : Con Z EL y bytes maxL ret rm as D Q' := by
  intro hE l ws
  refine MetFree.mono (h hE l ws) (fun _ _ p => p) (fun _ _ _ _ _ p => p) ?_
  intro a s o t _ r
  obtain ⟨v, L, h1, h2, ⟨D', h3, h4⟩, h5⟩ := r
  exact ⟨v, L, h1, h2, ⟨D', h3, q v D' h4⟩, h5⟩
end Jvm.Wk
namespace Jvm.Wk
open Jvm Jvm.ClassFile Sem Op Lib Bundle Jvm.Free Jvm.Stand Jvm.LawKit Jvm.RoadKit
theorem eq_int_val {s : State} {args : Array Value} {t : Term} {c : Int32} (h : (Cond.eq t (.int c)).value args s none s [] = some true) : t.eval args s none [] s = some (.int c) := by
  obtain ⟨x, y, e1, e2, -, -⟩ := cmp_v (Or.inl h)
  have c1 : y = .int c := Option.some.inj (e2.symm.trans (Term.int_eval c))
  subst c1
  cases x <;> simp [Cond.value, e1, e2] at h
  rw [e1, h]
theorem sf_const {s : State} {args : Array Value} {C n d : String} {c : Int32} (hi : (Cond.initializedFor C n d).before args s = true) (h : (Cond.eq (.static C n d) (.int c)).before args s = true) : Sta s s.heap C n d (.int c) :=
  Sta.start (eq_int_val (Cond.before_iff.mp h)) (Or.inl hi)
end Jvm.Wk
namespace Jvm.Wk
open Jvm Jvm.ClassFile Sem Op Lib Bundle Jvm.Free Jvm.Stand Jvm.LawKit Jvm.RoadKit
section Old
variable {s : State} {args : Array Value} {t : Term} {O f d K : String} {EL : Bool × List (String × Nat)} {D : List Ent} {a : Addr} {de : Desc}
end Old
end Jvm.Wk
namespace Jvm.Wk
end Jvm.Wk
namespace Jvm.Wk
open Jvm Jvm.ClassFile Sem Op Lib Bundle Jvm.Free Jvm.Stand Jvm.LawKit Jvm.RoadKit
end Jvm.Wk
namespace Jvm.Wk
open Jvm Jvm.ClassFile Sem Op Lib Bundle Jvm.Free Jvm.Stand Jvm.LawKit Jvm.RoadKit
end Jvm.Wk
namespace Jvm.Wk
open Jvm Jvm.ClassFile Sem Op Lib Bundle Jvm.Free Jvm.Stand Jvm.LawKit Jvm.RoadKit
end Jvm.Wk

namespace Jvm.Pilot.@@N@@
open Jvm Jvm.ClassFile Sem Op Lib Jvm.Free Jvm.Stand Jvm.LawKit Jvm.RoadKit Bundle Jvm.Wk Jvm.Pilot.@@N@@.Jvm.D
abbrev EL : Bool × List (String × Nat) := (false, consts_1)
def csv (Z : State) : Int32 := si Z "java/lang/String" "COMPACT_STRINGS" "Z"
def sfv (Z : State) : Value := sv Z "jdk/internal/util/Preconditions" "SIOOBE_FORMATTER" "Ljava/util/function/BiFunction;"
def kWORD (Z : State) : Addr := sa Z "com/example/rochester/rochester/JdqlLexer$Kind" "WORD" "Lcom/example/rochester/rochester/JdqlLexer$Kind;"
def SF (Z : State) : Prop := Sta Z Z.heap "java/lang/String" "COMPACT_STRINGS" "Z" (.int (csv Z)) ∧ (csv Z).toInt ≠ 0 ∧ (sfv Z).isRef = true ∧ Sta Z Z.heap "jdk/internal/util/Preconditions" "SIOOBE_FORMATTER" "Ljava/util/function/BiFunction;" (sfv Z) ∧ Sta Z Z.heap "java/lang/StringUTF16" "$assertionsDisabled" "Z" (.int (1 : Int32)) ∧ Sta Z Z.heap "java/lang/StringUTF16" "HI_BYTE_SHIFT" "I" (.int (0 : Int32)) ∧ Sta Z Z.heap "java/lang/StringUTF16" "LO_BYTE_SHIFT" "I" (.int (8 : Int32)) ∧ Sta Z Z.heap "com/example/rochester/rochester/JdqlLexer$Kind" "WORD" "Lcom/example/rochester/rochester/JdqlLexer$Kind;" (.ref (kWORD Z)) ∧ True
set_option maxRecDepth 65536
abbrev HW (a0 : Array Value) (Z : State) : Prop := ∀ d ∈ tables_1, d.before a0 Z = true
theorem wq {Z a0} (hw : HW a0 Z) (i : Nat) {d : Jvm.Cond} (h : tables_1[i]? = some d) : d.before a0 Z = true := hw _ (List.mem_of_getElem? h)
abbrev rmm (a b c d : Nat) : Room := { frames := a, cells := b, slots := c, locals := d }
theorem ix3 : Idx (3 : Int32) 3 := by unfold Idx; decide
theorem ix0 : Idx (0 : Int32) 0 := by unfold Idx; decide
theorem ix1 : Idx (1 : Int32) 1 := by unfold Idx; decide
theorem ix2 : Idx (2 : Int32) 2 := by unfold Idx; decide
theorem laString {Z a0} (hw : HW a0 Z) : LaidAll Z a0 "java/lang/String" [("java/lang/String", "value", "[B", .null), ("java/lang/String", "coder", "B", (vi 0))] := ⟨⟨Or.inr (wq hw 16 rfl), (.array .byte), by decide, rfl⟩, ⟨⟨Or.inr (wq hw 17 rfl), .byte, by decide, rfl⟩, trivial⟩⟩
theorem d1_0 : decode jdk_42_method_3_code 0 = .ok (.aload_n 0, 1) := by decide +kernel
theorem d1_1 : decode jdk_42_method_3_code 1 = .ok (.aload_n 1, 1) := by decide +kernel
theorem d1_2 : decode jdk_42_method_3_code 2 = .ok (.iconst 0, 1) := by decide +kernel
theorem d1_3 : decode jdk_42_method_3_code 3 = .ok (.aload_n 1, 1) := by decide +kernel
theorem d1_4 : decode jdk_42_method_3_code 4 = .ok (.arraylength, 1) := by decide +kernel
theorem d1_5 : decode jdk_42_method_3_code 5 = .ok (.aconst_null, 1) := by decide +kernel
theorem d1_6 : decode jdk_42_method_3_code 6 = .ok (.invokespecial 27, 3) := by decide +kernel
theorem d2_0 : decode jdk_42_method_149_code 0 = .ok (.aload_n 0, 1) := by decide +kernel
theorem d2_1 : decode jdk_42_method_149_code 1 = .ok (.invokespecial 1, 3) := by decide +kernel
theorem d2_4 : decode jdk_42_method_149_code 4 = .ok (.iload_n 3, 1) := by decide +kernel
theorem d2_5 : decode jdk_42_method_149_code 5 = .ok (.ifCond .ne 22, 3) := by decide +kernel
theorem d2_27 : decode jdk_42_method_149_code 27 = .ok (.getstatic 38, 3) := by decide +kernel
theorem d2_30 : decode jdk_42_method_149_code 30 = .ok (.ifCond .eq 28, 3) := by decide +kernel
theorem q0 : (0 : Int32).toInt = 0 := by decide
theorem d2_33 : decode jdk_42_method_149_code 33 = .ok (.aload_n 1, 1) := by decide +kernel
theorem d2_34 : decode jdk_42_method_149_code 34 = .ok (.iload_n 2, 1) := by decide +kernel
theorem d2_35 : decode jdk_42_method_149_code 35 = .ok (.iload_n 3, 1) := by decide +kernel
theorem d2_36 : decode jdk_42_method_149_code 36 = .ok (.invokestatic 177, 3) := by decide +kernel
theorem d23_0 : decode jdk_52_method_16_code 0 = .ok (.iload_n 2, 1) := by decide +kernel
theorem d23_1 : decode jdk_52_method_16_code 1 = .ok (.newarray .byte, 2) := by decide +kernel
theorem d23_3 : decode jdk_52_method_16_code 3 = .ok (.astore_n 3, 1) := by decide +kernel
theorem d23_4 : decode jdk_52_method_16_code 4 = .ok (.aload_n 0, 1) := by decide +kernel
theorem d23_5 : decode jdk_52_method_16_code 5 = .ok (.iload_n 1, 1) := by decide +kernel
theorem d23_6 : decode jdk_52_method_16_code 6 = .ok (.aload_n 3, 1) := by decide +kernel
theorem d23_7 : decode jdk_52_method_16_code 7 = .ok (.iconst 0, 1) := by decide +kernel
theorem d23_8 : decode jdk_52_method_16_code 8 = .ok (.iload_n 2, 1) := by decide +kernel
theorem d23_9 : decode jdk_52_method_16_code 9 = .ok (.invokestatic 115, 3) := by decide +kernel
theorem d24_0 : decode jdk_52_method_21_code 0 = .ok (.iconst 0, 1) := by decide +kernel
theorem d24_1 : decode jdk_52_method_21_code 1 = .ok (.istore 5, 2) := by decide +kernel
theorem d24_3 : decode jdk_52_method_21_code 3 = .ok (.iload 5, 2) := by decide +kernel
theorem d24_5 : decode jdk_52_method_21_code 5 = .ok (.iload 4, 2) := by decide +kernel
theorem d24_7 : decode jdk_52_method_21_code 7 = .ok (.if_icmp .ge 37, 3) := by decide +kernel
theorem d24_10 : decode jdk_52_method_21_code 10 = .ok (.aload_n 0, 1) := by decide +kernel
theorem d24_11 : decode jdk_52_method_21_code 11 = .ok (.iload_n 1, 1) := by decide +kernel
theorem d24_12 : decode jdk_52_method_21_code 12 = .ok (.caload, 1) := by decide +kernel
theorem d24_13 : decode jdk_52_method_21_code 13 = .ok (.istore 6, 2) := by decide +kernel
theorem d24_15 : decode jdk_52_method_21_code 15 = .ok (.iload 6, 2) := by decide +kernel
theorem d24_17 : decode jdk_52_method_21_code 17 = .ok (.sipush 255, 3) := by decide +kernel
theorem d24_20 : decode jdk_52_method_21_code 20 = .ok (.if_icmp .le 6, 3) := by decide +kernel
theorem d24_26 : decode jdk_52_method_21_code 26 = .ok (.aload_n 2, 1) := by decide +kernel
theorem d24_27 : decode jdk_52_method_21_code 27 = .ok (.iload_n 3, 1) := by decide +kernel
theorem d24_28 : decode jdk_52_method_21_code 28 = .ok (.iload 6, 2) := by decide +kernel
theorem d24_30 : decode jdk_52_method_21_code 30 = .ok (.i2b, 1) := by decide +kernel
theorem d24_31 : decode jdk_52_method_21_code 31 = .ok (.bastore, 1) := by decide +kernel
theorem q255 : (255 : Int32).toInt = 255 := by decide
theorem d24_32 : decode jdk_52_method_21_code 32 = .ok (.iinc 1 1, 3) := by decide +kernel
theorem d24_35 : decode jdk_52_method_21_code 35 = .ok (.iinc 3 1, 3) := by decide +kernel
theorem d24_38 : decode jdk_52_method_21_code 38 = .ok (.iinc 5 1, 3) := by decide +kernel
theorem d24_41 : decode jdk_52_method_21_code 41 = .ok (.goto (-38), 3) := by decide +kernel
theorem d24_44 : decode jdk_52_method_21_code 44 = .ok (.iload 4, 2) := by decide +kernel
theorem d24_46 : decode jdk_52_method_21_code 46 = .ok (.ireturn, 1) := by decide +kernel
theorem d24_23 : decode jdk_52_method_21_code 23 = .ok (.iload 5, 2) := by decide +kernel
theorem d24_25 : decode jdk_52_method_21_code 25 = .ok (.ireturn, 1) := by decide +kernel
abbrev y1 : MethodName := ⟨"java/lang/StringUTF16", "compress", "([CI[BII)I"⟩
abbrev y1b : ByteArray := jdk_52_method_21_code
abbrev y1r : Option Jvm.ClassFile.FieldType := (Option.some Jvm.ClassFile.FieldType.int)
theorem c4_compress {Z a0} (hw : HW a0 Z) (hs : SF Z) {p1 p2 : Addr} {x1 : Int32} (hx1 : 0 ≤ x1.toInt ∧ x1.toInt ≤ 65535) {x2 : Int32} (hx2 : 0 ≤ x2.toInt ∧ x2.toInt ≤ 65535) {x3 : Int32} (hx3 : 0 ≤ x3.toInt ∧ x3.toInt ≤ 65535) {ad_p2 : String} {w_p1 : Bool} {ad_p1 : String} {F : List Ent} (mp1 : (p1, w_p1, ar ad_p1 .char [(vi x1), (vi x2), (vi x3)]) ∈ F) : Con Z EL y1 y1b 7 y1r (rmm 0 0 0 0) [(vr p1), (vi 0), (vr p2), (vi 0), (vi 3)] ((p2, true, ar ad_p2 .byte [(vi 0), (vi 0), (vi 0)]) :: F) (fun v D' => (Cd .le x1 (255 : Int32) ∧ Cd .le x2 (255 : Int32) ∧ Cd .le x3 (255 : Int32) ∧ v = some (vi 3) ∧ (p2, true, ar ad_p2 .byte [(vi x1.toInt8.toInt32), (vi x2.toInt8.toInt32), (vi x3.toInt8.toInt32)]) :: F = D') ∨ (Cd .le x1 (255 : Int32) ∧ Cd .le x2 (255 : Int32) ∧ ¬ Cd .le x3 (255 : Int32) ∧ v = some (vi 2) ∧ (p2, true, ar ad_p2 .byte [(vi x1.toInt8.toInt32), (vi x2.toInt8.toInt32), (vi 0)]) :: F = D') ∨ (Cd .le x1 (255 : Int32) ∧ ¬ Cd .le x2 (255 : Int32) ∧ v = some (vi 1) ∧ (p2, true, ar ad_p2 .byte [(vi x1.toInt8.toInt32), (vi 0), (vi 0)]) :: F = D') ∨ (¬ Cd .le x1 (255 : Int32) ∧ v = some (vi 0) ∧ (p2, true, ar ad_p2 .byte [(vi 0), (vi 0), (vi 0)]) :: F = D')) := by
  refine Con.of (ls := #[rv p1, iv 0, rv p2, iv 0, iv 3, uu, uu]) (by decide +kernel) rfl ?_
  refine W.iconst (0) d24_0 (by decide) ?_
  refine W.istore (ls' := #[rv p1, iv 0, rv p2, iv 0, iv 3, iv 0, uu]) d24_1 rfl ?_
  refine W.iload d24_3 rfl ?_
  refine W.iload d24_5 rfl ?_
  refine W.icmpN d24_7 (n_ge (by decide)) ?_
  refine W.aloadN d24_10 rfl rfl ?_
  refine W.iloadN d24_11 rfl ?_
  refine W.caload 0 d24_12 (mS mp1) ix0 rfl ?_
  refine W.istore (ls' := #[rv p1, iv 0, rv p2, iv 0, iv 3, iv 0, iv x1]) d24_13 rfl ?_
  refine W.iload d24_15 rfl ?_
  refine W.sipush (255) d24_17 (by decide) ?_
  refine W.icmp 26 d24_20 (by decide) (fun h1 => ?_) (fun h1 => ?_)
  ·
   have ih1 := t_le h1
   refine W.aloadN d24_26 rfl rfl ?_
   refine W.iloadN d24_27 rfl ?_
   refine W.iload d24_28 rfl ?_
   refine W.i2b d24_30 ?_
   refine W.bastore (D' := (p2, true, ar ad_p2 .byte [(vi x1.toInt8.toInt32), (vi 0), (vi 0)]) :: F) 0 0 d24_31 rfl ix0 (Nat.le_of_ble_eq_true rfl) (z_narB (by have := a_i2b x1; have := q255; omega)) rfl ?_
   refine W.iincK (ls' := #[rv p1, iv 1, rv p2, iv 0, iv 3, iv 0, iv x1]) (1) (1 : Int32) d24_32 (by decide) rfl (by decide) rfl ?_
   refine W.iincK (ls' := #[rv p1, iv 1, rv p2, iv 1, iv 3, iv 0, iv x1]) (1) (1 : Int32) d24_35 (by decide) rfl (by decide) rfl ?_
   refine W.iincK (ls' := #[rv p1, iv 1, rv p2, iv 1, iv 3, iv 1, iv x1]) (1) (1 : Int32) d24_38 (by decide) rfl (by decide) rfl ?_
   refine W.goto 3 d24_41 (by decide) ?_
   refine W.iload d24_3 rfl ?_
   refine W.iload d24_5 rfl ?_
   refine W.icmpN d24_7 (n_ge (by decide)) ?_
   refine W.aloadN d24_10 rfl rfl ?_
   refine W.iloadN d24_11 rfl ?_
   refine W.caload 1 d24_12 (mS mp1) ix1 rfl ?_
   refine W.istore (ls' := #[rv p1, iv 1, rv p2, iv 1, iv 3, iv 1, iv x2]) d24_13 rfl ?_
   refine W.iload d24_15 rfl ?_
   refine W.sipush (255) d24_17 (by decide) ?_
   refine W.icmp 26 d24_20 (by decide) (fun h2 => ?_) (fun h2 => ?_)
   ·
    have ih2 := t_le h2
    refine W.aloadN d24_26 rfl rfl ?_
    refine W.iloadN d24_27 rfl ?_
    refine W.iload d24_28 rfl ?_
    refine W.i2b d24_30 ?_
    refine W.bastore (D' := (p2, true, ar ad_p2 .byte [(vi x1.toInt8.toInt32), (vi x2.toInt8.toInt32), (vi 0)]) :: F) 0 1 d24_31 rfl ix1 (Nat.le_of_ble_eq_true rfl) (z_narB (by have := a_i2b x2; have := q255; omega)) rfl ?_
    refine W.iincK (ls' := #[rv p1, iv 2, rv p2, iv 1, iv 3, iv 1, iv x2]) (1) (2 : Int32) d24_32 (by decide) rfl (by decide) rfl ?_
    refine W.iincK (ls' := #[rv p1, iv 2, rv p2, iv 2, iv 3, iv 1, iv x2]) (1) (2 : Int32) d24_35 (by decide) rfl (by decide) rfl ?_
    refine W.iincK (ls' := #[rv p1, iv 2, rv p2, iv 2, iv 3, iv 2, iv x2]) (1) (2 : Int32) d24_38 (by decide) rfl (by decide) rfl ?_
    refine W.goto 3 d24_41 (by decide) ?_
    refine W.iload d24_3 rfl ?_
    refine W.iload d24_5 rfl ?_
    refine W.icmpN d24_7 (n_ge (by decide)) ?_
    refine W.aloadN d24_10 rfl rfl ?_
    refine W.iloadN d24_11 rfl ?_
    refine W.caload 2 d24_12 (mS mp1) ix2 rfl ?_
    refine W.istore (ls' := #[rv p1, iv 2, rv p2, iv 2, iv 3, iv 2, iv x3]) d24_13 rfl ?_
    refine W.iload d24_15 rfl ?_
    refine W.sipush (255) d24_17 (by decide) ?_
    refine W.icmp 26 d24_20 (by decide) (fun h3 => ?_) (fun h3 => ?_)
    ·
     have ih3 := t_le h3
     refine W.aloadN d24_26 rfl rfl ?_
     refine W.iloadN d24_27 rfl ?_
     refine W.iload d24_28 rfl ?_
     refine W.i2b d24_30 ?_
     refine W.bastore (D' := (p2, true, ar ad_p2 .byte [(vi x1.toInt8.toInt32), (vi x2.toInt8.toInt32), (vi x3.toInt8.toInt32)]) :: F) 0 2 d24_31 rfl ix2 (Nat.le_of_ble_eq_true rfl) (z_narB (by have := a_i2b x3; have := q255; omega)) rfl ?_
     refine W.iincK (ls' := #[rv p1, iv 3, rv p2, iv 2, iv 3, iv 2, iv x3]) (1) (3 : Int32) d24_32 (by decide) rfl (by decide) rfl ?_
     refine W.iincK (ls' := #[rv p1, iv 3, rv p2, iv 3, iv 3, iv 2, iv x3]) (1) (3 : Int32) d24_35 (by decide) rfl (by decide) rfl ?_
     refine W.iincK (ls' := #[rv p1, iv 3, rv p2, iv 3, iv 3, iv 3, iv x3]) (1) (3 : Int32) d24_38 (by decide) rfl (by decide) rfl ?_
     refine W.goto 3 d24_41 (by decide) ?_
     refine W.iload d24_3 rfl ?_
     refine W.iload d24_5 rfl ?_
     refine W.icmpY 44 d24_7 (y_ge (by decide)) (by decide) ?_
     refine W.iload d24_44 rfl ?_
     exact W.ireturn d24_46 rfl (Or.inl rfl) rfl (by decide) (Or.inl ⟨h1, h2, h3, rfl, rfl⟩)
    ·
     have ih3 := f_le h3
     refine W.iload d24_23 rfl ?_
     exact W.ireturn d24_25 rfl (Or.inl rfl) rfl (by decide) (Or.inr (Or.inl ⟨h1, h2, h3, rfl, rfl⟩))
   ·
    have ih2 := f_le h2
    refine W.iload d24_23 rfl ?_
    exact W.ireturn d24_25 rfl (Or.inl rfl) rfl (by decide) (Or.inr (Or.inr (Or.inl ⟨h1, h2, rfl, rfl⟩)))
  ·
   have ih1 := f_le h1
   refine W.iload d24_23 rfl ?_
   exact W.ireturn d24_25 rfl (Or.inl rfl) rfl (by decide) (Or.inr (Or.inr (Or.inr ⟨h1, rfl, rfl⟩)))
theorem pd__CI_BII_I : parseMethodDescriptor "([CI[BII)I" = some ⟨[(.array .char), .int, (.array .byte), .int, .int], some .int⟩ := by decide +kernel
theorem d23_12 : decode jdk_52_method_16_code 12 = .ok (.istore 4, 2) := by decide +kernel
theorem d23_14 : decode jdk_52_method_16_code 14 = .ok (.iload 4, 2) := by decide +kernel
theorem d23_16 : decode jdk_52_method_16_code 16 = .ok (.iload_n 2, 1) := by decide +kernel
theorem d23_17 : decode jdk_52_method_16_code 17 = .ok (.if_icmp .eq 40, 3) := by decide +kernel
theorem d23_57 : decode jdk_52_method_16_code 57 = .ok (.aload_n 3, 1) := by decide +kernel
theorem d23_58 : decode jdk_52_method_16_code 58 = .ok (.areturn, 1) := by decide +kernel
theorem d23_20 : decode jdk_52_method_16_code 20 = .ok (.aload_n 0, 1) := by decide +kernel
theorem d23_21 : decode jdk_52_method_16_code 21 = .ok (.iload_n 1, 1) := by decide +kernel
theorem d23_22 : decode jdk_52_method_16_code 22 = .ok (.iload_n 2, 1) := by decide +kernel
theorem d23_23 : decode jdk_52_method_16_code 23 = .ok (.invokestatic 119, 3) := by decide +kernel
theorem d35_0 : decode jdk_52_method_14_code 0 = .ok (.iload_n 2, 1) := by decide +kernel
theorem d35_1 : decode jdk_52_method_14_code 1 = .ok (.invokestatic 107, 3) := by decide +kernel
theorem d36_0 : decode jdk_52_method_2_code 0 = .ok (.iload_n 0, 1) := by decide +kernel
theorem d36_1 : decode jdk_52_method_2_code 1 = .ok (.invokestatic 11, 3) := by decide +kernel
theorem d37_0 : decode jdk_52_method_3_code 0 = .ok (.iload_n 0, 1) := by decide +kernel
theorem d37_1 : decode jdk_52_method_3_code 1 = .ok (.ifCond .ge 11, 3) := by decide +kernel
theorem d37_12 : decode jdk_52_method_3_code 12 = .ok (.iload_n 0, 1) := by decide +kernel
theorem d37_13 : decode jdk_52_method_3_code 13 = .ok (.ldc 20, 2) := by decide +kernel
theorem d37_15 : decode jdk_52_method_3_code 15 = .ok (.if_icmp .lt 40, 3) := by decide +kernel
theorem d37_55 : decode jdk_52_method_3_code 55 = .ok (.iload_n 0, 1) := by decide +kernel
theorem d37_56 : decode jdk_52_method_3_code 56 = .ok (.iconst 1, 1) := by decide +kernel
theorem d37_57 : decode jdk_52_method_3_code 57 = .ok (.ishl, 1) := by decide +kernel
theorem d37_58 : decode jdk_52_method_3_code 58 = .ok (.ireturn, 1) := by decide +kernel
abbrev y2 : MethodName := ⟨"java/lang/StringUTF16", "newBytesLength", "(I)I"⟩
abbrev y2b : ByteArray := jdk_52_method_3_code
abbrev y2r : Option Jvm.ClassFile.FieldType := (Option.some Jvm.ClassFile.FieldType.int)
theorem c7_newBytesLength {Z a0} (hw : HW a0 Z) (hs : SF Z) {F : List Ent} : Con Z EL y2 y2b 1 y2r (rmm 0 0 0 0) [(vi 3)] (F) (fun v D' => (v = some (vi 6) ∧ F = D')) := by
  refine Con.of (ls := #[iv 3]) (by decide +kernel) rfl ?_
  refine W.iloadN d37_0 rfl ?_
  refine W.ifY 12 d37_1 (y_ge (by decide)) (by decide) ?_
  refine W.iloadN d37_12 rfl ?_
  refine W.ldcI d37_13 (wq hw 200 rfl) ?_
  refine W.icmpY 55 d37_15 (y_lt (by decide)) (by decide) ?_
  refine W.iloadN d37_55 rfl ?_
  refine W.iconst (1) d37_56 (by decide) ?_
  refine W.ishlK (6 : Int32) d37_57 (by decide) ?_
  exact W.ireturn d37_58 rfl (Or.inl rfl) rfl (by decide) ⟨rfl, rfl⟩
theorem pd_I_I : parseMethodDescriptor "(I)I" = some ⟨[.int], some .int⟩ := by decide +kernel
theorem d36_4 : decode jdk_52_method_2_code 4 = .ok (.newarray .byte, 2) := by decide +kernel
theorem ix6 : Idx (6 : Int32) 6 := by unfold Idx; decide
theorem d36_6 : decode jdk_52_method_2_code 6 = .ok (.areturn, 1) := by decide +kernel
abbrev y3 : MethodName := ⟨"java/lang/StringUTF16", "newBytesFor", "(I)[B"⟩
abbrev y3b : ByteArray := jdk_52_method_2_code
abbrev y3r : Option Jvm.ClassFile.FieldType := (Option.some (Jvm.ClassFile.FieldType.array Jvm.ClassFile.FieldType.byte))
theorem c6_newBytesFor {Z a0} (hw : HW a0 Z) (hs : SF Z) {F : List Ent} : Con Z EL y3 y3b 1 y3r (rmm 1 1 6 12) [(vi 3)] (F) (fun v D' => (∃ a1 : Addr, v = some (vr a1) ∧ (a1, true, ar "[B" .byte [(vi 0), (vi 0), (vi 0), (vi 0), (vi 0), (vi 0)]) :: F = D')) := by
  refine Con.of (ls := #[iv 3]) (by decide +kernel) rfl ?_
  refine W.iloadN d36_0 rfl ?_
  refine W.callS (as := [(vi 3)]) 0 [] d36_1 (wq hw 197 rfl) (wq hw 198 rfl) (wq hw 145 rfl) (wq hw 199 rfl) (c7_newBytesLength hw hs) (by decide) pd_I_I rfl rfl rfl rfl (by decide) (fun v D' h => ?_)
  obtain ⟨rfl, rfl⟩ := h
  show W _ _ _ _ _ _ _ _ _ _ _ _ 4 _ [(vi 6)]
  refine W.newarr 6 (ad := "[B") (ty := .byte) d36_4 rfl (wq hw 15 rfl) ix6 rfl (by decide) (by decide) (fun a1 => ?_)
  show W _ _ _ _ _ _ _ _ _ _ _ _ 6 _ [(vr a1)]
  exact W.areturn d36_6 rfl rfl rfl (by decide) ⟨a1, rfl, rfl⟩
theorem pd_I__B : parseMethodDescriptor "(I)[B" = some ⟨[.int], some (.array .byte)⟩ := by decide +kernel
theorem d35_4 : decode jdk_52_method_14_code 4 = .ok (.astore_n 3, 1) := by decide +kernel
theorem d35_5 : decode jdk_52_method_14_code 5 = .ok (.iconst 0, 1) := by decide +kernel
theorem d35_6 : decode jdk_52_method_14_code 6 = .ok (.istore 4, 2) := by decide +kernel
theorem d35_8 : decode jdk_52_method_14_code 8 = .ok (.iload 4, 2) := by decide +kernel
theorem d35_10 : decode jdk_52_method_14_code 10 = .ok (.iload_n 2, 1) := by decide +kernel
theorem d35_11 : decode jdk_52_method_14_code 11 = .ok (.if_icmp .ge 21, 3) := by decide +kernel
theorem d35_14 : decode jdk_52_method_14_code 14 = .ok (.aload_n 3, 1) := by decide +kernel
theorem d35_15 : decode jdk_52_method_14_code 15 = .ok (.iload 4, 2) := by decide +kernel
theorem d35_17 : decode jdk_52_method_14_code 17 = .ok (.aload_n 0, 1) := by decide +kernel
theorem d35_18 : decode jdk_52_method_14_code 18 = .ok (.iload_n 1, 1) := by decide +kernel
theorem d35_19 : decode jdk_52_method_14_code 19 = .ok (.caload, 1) := by decide +kernel
theorem d35_20 : decode jdk_52_method_14_code 20 = .ok (.invokestatic 111, 3) := by decide +kernel
theorem d38_0 : decode jdk_52_method_4_code 0 = .ok (.getstatic 44, 3) := by decide +kernel
theorem d38_3 : decode jdk_52_method_4_code 3 = .ok (.ifCond .ne 25, 3) := by decide +kernel
theorem d38_28 : decode jdk_52_method_4_code 28 = .ok (.iload_n 1, 1) := by decide +kernel
theorem d38_29 : decode jdk_52_method_4_code 29 = .ok (.iconst 1, 1) := by decide +kernel
theorem d38_30 : decode jdk_52_method_4_code 30 = .ok (.ishl, 1) := by decide +kernel
theorem d38_31 : decode jdk_52_method_4_code 31 = .ok (.istore_n 1, 1) := by decide +kernel
theorem d38_32 : decode jdk_52_method_4_code 32 = .ok (.aload_n 0, 1) := by decide +kernel
theorem d38_33 : decode jdk_52_method_4_code 33 = .ok (.iload_n 1, 1) := by decide +kernel
theorem d38_34 : decode jdk_52_method_4_code 34 = .ok (.iinc 1 1, 3) := by decide +kernel
theorem d38_37 : decode jdk_52_method_4_code 37 = .ok (.iload_n 2, 1) := by decide +kernel
theorem d38_38 : decode jdk_52_method_4_code 38 = .ok (.getstatic 59, 3) := by decide +kernel
theorem d38_41 : decode jdk_52_method_4_code 41 = .ok (.ishr, 1) := by decide +kernel
theorem d38_42 : decode jdk_52_method_4_code 42 = .ok (.i2b, 1) := by decide +kernel
theorem d38_43 : decode jdk_52_method_4_code 43 = .ok (.bastore, 1) := by decide +kernel
theorem d38_44 : decode jdk_52_method_4_code 44 = .ok (.aload_n 0, 1) := by decide +kernel
theorem d38_45 : decode jdk_52_method_4_code 45 = .ok (.iload_n 1, 1) := by decide +kernel
theorem d38_46 : decode jdk_52_method_4_code 46 = .ok (.iload_n 2, 1) := by decide +kernel
theorem d38_47 : decode jdk_52_method_4_code 47 = .ok (.getstatic 63, 3) := by decide +kernel
theorem d38_50 : decode jdk_52_method_4_code 50 = .ok (.ishr, 1) := by decide +kernel
theorem d38_51 : decode jdk_52_method_4_code 51 = .ok (.i2b, 1) := by decide +kernel
theorem d38_52 : decode jdk_52_method_4_code 52 = .ok (.bastore, 1) := by decide +kernel
theorem q8 : (8 : Int32).toInt = 8 := by decide
theorem ashr_8 (x : Int32) : (x >>> ((8 : Int32) &&& 31)).toInt = x.toInt / 256 := a_shr x 8 8 256 (by decide) (by decide)
theorem d38_53 : decode jdk_52_method_4_code 53 = .ok (.return_, 1) := by decide +kernel
abbrev y4 : MethodName := ⟨"java/lang/StringUTF16", "putChar", "([BII)V"⟩
abbrev y4b : ByteArray := jdk_52_method_4_code
abbrev y4r : Option Jvm.ClassFile.FieldType := (Option.none : Option Jvm.ClassFile.FieldType)
theorem c8_putChar {Z a0} (hw : HW a0 Z) (hs : SF Z) {p1 : Addr} {x1 : Int32} (hx1 : 0 ≤ x1.toInt ∧ x1.toInt ≤ 65535) {e_p1_2 e_p1_3 e_p1_4 e_p1_5 : Value} {ad_p1 : String} {F : List Ent} : Con Z EL y4 y4b 3 y4r (rmm 0 0 0 0) [(vr p1), (vi 0), (vi x1)] ((p1, true, ar ad_p1 .byte [(vi 0), (vi 0), e_p1_2, e_p1_3, e_p1_4, e_p1_5]) :: F) (fun v D' => (v = none ∧ (p1, true, ar ad_p1 .byte [(vi x1.toInt8.toInt32), (vi (x1 >>> ((8 : Int32) &&& 31)).toInt8.toInt32), e_p1_2, e_p1_3, e_p1_4, e_p1_5]) :: F = D')) := by
  refine Con.of (ls := #[rv p1, iv 0, iv x1]) (by decide +kernel) rfl ?_
  refine W.gets d38_0 (wq hw 204 rfl) Via.refl hs.2.2.2.2.1 ?_
  refine W.ifY 28 d38_3 (y_ne (by decide)) (by decide) ?_
  refine W.iloadN d38_28 rfl ?_
  refine W.iconst (1) d38_29 (by decide) ?_
  refine W.ishlK (0 : Int32) d38_30 (by decide) ?_
  refine W.istoreN (ls' := #[rv p1, iv 0, iv x1]) d38_31 rfl ?_
  refine W.aloadN d38_32 rfl rfl ?_
  refine W.iloadN d38_33 rfl ?_
  refine W.iincK (ls' := #[rv p1, iv 1, iv x1]) (1) (1 : Int32) d38_34 (by decide) rfl (by decide) rfl ?_
  refine W.iloadN d38_37 rfl ?_
  refine W.gets d38_38 (wq hw 205 rfl) Via.refl hs.2.2.2.2.2.1 ?_
  refine W.ishrK x1 d38_41 (z_shr0 x1) ?_
  refine W.i2b d38_42 ?_
  refine W.bastore (D' := (p1, true, ar ad_p1 .byte [(vi x1.toInt8.toInt32), (vi 0), e_p1_2, e_p1_3, e_p1_4, e_p1_5]) :: F) 0 0 d38_43 rfl ix0 (Nat.le_of_ble_eq_true rfl) (z_narB (by have := a_i2b x1; omega)) rfl ?_
  refine W.aloadN d38_44 rfl rfl ?_
  refine W.iloadN d38_45 rfl ?_
  refine W.iloadN d38_46 rfl ?_
  refine W.gets d38_47 (wq hw 206 rfl) Via.refl hs.2.2.2.2.2.2.1 ?_
  refine W.ishr d38_50 ?_
  refine W.i2b d38_51 ?_
  refine W.bastore (D' := (p1, true, ar ad_p1 .byte [(vi x1.toInt8.toInt32), (vi (x1 >>> ((8 : Int32) &&& 31)).toInt8.toInt32), e_p1_2, e_p1_3, e_p1_4, e_p1_5]) :: F) 0 1 d38_52 rfl ix1 (Nat.le_of_ble_eq_true rfl) (z_narB (by have := q8; have := ashr_8 x1; have := a_i2b (x1 >>> ((8 : Int32) &&& 31)); omega)) rfl ?_
  exact W.return_ d38_53 rfl (by decide) ⟨rfl, rfl⟩
theorem pd__BII_V : parseMethodDescriptor "([BII)V" = some ⟨[(.array .byte), .int, .int], none⟩ := by decide +kernel
theorem d35_23 : decode jdk_52_method_14_code 23 = .ok (.iinc 1 1, 3) := by decide +kernel
theorem d35_26 : decode jdk_52_method_14_code 26 = .ok (.iinc 4 1, 3) := by decide +kernel
theorem d35_29 : decode jdk_52_method_14_code 29 = .ok (.goto (-21), 3) := by decide +kernel
theorem c9_putChar {Z a0} (hw : HW a0 Z) (hs : SF Z) {p1 : Addr} {x1 : Int32} (hx1 : 0 ≤ x1.toInt ∧ x1.toInt ≤ 65535) {e_p1_0 e_p1_1 e_p1_4 e_p1_5 : Value} {ad_p1 : String} {F : List Ent} : Con Z EL y4 y4b 3 y4r (rmm 0 0 0 0) [(vr p1), (vi 1), (vi x1)] ((p1, true, ar ad_p1 .byte [e_p1_0, e_p1_1, (vi 0), (vi 0), e_p1_4, e_p1_5]) :: F) (fun v D' => (v = none ∧ (p1, true, ar ad_p1 .byte [e_p1_0, e_p1_1, (vi x1.toInt8.toInt32), (vi (x1 >>> ((8 : Int32) &&& 31)).toInt8.toInt32), e_p1_4, e_p1_5]) :: F = D')) := by
  refine Con.of (ls := #[rv p1, iv 1, iv x1]) (by decide +kernel) rfl ?_
  refine W.gets d38_0 (wq hw 204 rfl) Via.refl hs.2.2.2.2.1 ?_
  refine W.ifY 28 d38_3 (y_ne (by decide)) (by decide) ?_
  refine W.iloadN d38_28 rfl ?_
  refine W.iconst (1) d38_29 (by decide) ?_
  refine W.ishlK (2 : Int32) d38_30 (by decide) ?_
  refine W.istoreN (ls' := #[rv p1, iv 2, iv x1]) d38_31 rfl ?_
  refine W.aloadN d38_32 rfl rfl ?_
  refine W.iloadN d38_33 rfl ?_
  refine W.iincK (ls' := #[rv p1, iv 3, iv x1]) (1) (3 : Int32) d38_34 (by decide) rfl (by decide) rfl ?_
  refine W.iloadN d38_37 rfl ?_
  refine W.gets d38_38 (wq hw 205 rfl) Via.refl hs.2.2.2.2.2.1 ?_
  refine W.ishrK x1 d38_41 (z_shr0 x1) ?_
  refine W.i2b d38_42 ?_
  refine W.bastore (D' := (p1, true, ar ad_p1 .byte [e_p1_0, e_p1_1, (vi x1.toInt8.toInt32), (vi 0), e_p1_4, e_p1_5]) :: F) 0 2 d38_43 rfl ix2 (Nat.le_of_ble_eq_true rfl) (z_narB (by have := a_i2b x1; omega)) rfl ?_
  refine W.aloadN d38_44 rfl rfl ?_
  refine W.iloadN d38_45 rfl ?_
  refine W.iloadN d38_46 rfl ?_
  refine W.gets d38_47 (wq hw 206 rfl) Via.refl hs.2.2.2.2.2.2.1 ?_
  refine W.ishr d38_50 ?_
  refine W.i2b d38_51 ?_
  refine W.bastore (D' := (p1, true, ar ad_p1 .byte [e_p1_0, e_p1_1, (vi x1.toInt8.toInt32), (vi (x1 >>> ((8 : Int32) &&& 31)).toInt8.toInt32), e_p1_4, e_p1_5]) :: F) 0 3 d38_52 rfl ix3 (Nat.le_of_ble_eq_true rfl) (z_narB (by have := q8; have := ashr_8 x1; have := a_i2b (x1 >>> ((8 : Int32) &&& 31)); omega)) rfl ?_
  exact W.return_ d38_53 rfl (by decide) ⟨rfl, rfl⟩
theorem ix4 : Idx (4 : Int32) 4 := by unfold Idx; decide
theorem ix5 : Idx (5 : Int32) 5 := by unfold Idx; decide
theorem c10_putChar {Z a0} (hw : HW a0 Z) (hs : SF Z) {p1 : Addr} {x1 : Int32} (hx1 : 0 ≤ x1.toInt ∧ x1.toInt ≤ 65535) {e_p1_0 e_p1_1 e_p1_2 e_p1_3 : Value} {ad_p1 : String} {F : List Ent} : Con Z EL y4 y4b 3 y4r (rmm 0 0 0 0) [(vr p1), (vi 2), (vi x1)] ((p1, true, ar ad_p1 .byte [e_p1_0, e_p1_1, e_p1_2, e_p1_3, (vi 0), (vi 0)]) :: F) (fun v D' => (v = none ∧ (p1, true, ar ad_p1 .byte [e_p1_0, e_p1_1, e_p1_2, e_p1_3, (vi x1.toInt8.toInt32), (vi (x1 >>> ((8 : Int32) &&& 31)).toInt8.toInt32)]) :: F = D')) := by
  refine Con.of (ls := #[rv p1, iv 2, iv x1]) (by decide +kernel) rfl ?_
  refine W.gets d38_0 (wq hw 204 rfl) Via.refl hs.2.2.2.2.1 ?_
  refine W.ifY 28 d38_3 (y_ne (by decide)) (by decide) ?_
  refine W.iloadN d38_28 rfl ?_
  refine W.iconst (1) d38_29 (by decide) ?_
  refine W.ishlK (4 : Int32) d38_30 (by decide) ?_
  refine W.istoreN (ls' := #[rv p1, iv 4, iv x1]) d38_31 rfl ?_
  refine W.aloadN d38_32 rfl rfl ?_
  refine W.iloadN d38_33 rfl ?_
  refine W.iincK (ls' := #[rv p1, iv 5, iv x1]) (1) (5 : Int32) d38_34 (by decide) rfl (by decide) rfl ?_
  refine W.iloadN d38_37 rfl ?_
  refine W.gets d38_38 (wq hw 205 rfl) Via.refl hs.2.2.2.2.2.1 ?_
  refine W.ishrK x1 d38_41 (z_shr0 x1) ?_
  refine W.i2b d38_42 ?_
  refine W.bastore (D' := (p1, true, ar ad_p1 .byte [e_p1_0, e_p1_1, e_p1_2, e_p1_3, (vi x1.toInt8.toInt32), (vi 0)]) :: F) 0 4 d38_43 rfl ix4 (Nat.le_of_ble_eq_true rfl) (z_narB (by have := a_i2b x1; omega)) rfl ?_
  refine W.aloadN d38_44 rfl rfl ?_
  refine W.iloadN d38_45 rfl ?_
  refine W.iloadN d38_46 rfl ?_
  refine W.gets d38_47 (wq hw 206 rfl) Via.refl hs.2.2.2.2.2.2.1 ?_
  refine W.ishr d38_50 ?_
  refine W.i2b d38_51 ?_
  refine W.bastore (D' := (p1, true, ar ad_p1 .byte [e_p1_0, e_p1_1, e_p1_2, e_p1_3, (vi x1.toInt8.toInt32), (vi (x1 >>> ((8 : Int32) &&& 31)).toInt8.toInt32)]) :: F) 0 5 d38_52 rfl ix5 (Nat.le_of_ble_eq_true rfl) (z_narB (by have := q8; have := ashr_8 x1; have := a_i2b (x1 >>> ((8 : Int32) &&& 31)); omega)) rfl ?_
  exact W.return_ d38_53 rfl (by decide) ⟨rfl, rfl⟩
theorem d35_32 : decode jdk_52_method_14_code 32 = .ok (.aload_n 3, 1) := by decide +kernel
theorem d35_33 : decode jdk_52_method_14_code 33 = .ok (.areturn, 1) := by decide +kernel
abbrev y5 : MethodName := ⟨"java/lang/StringUTF16", "toBytes", "([CII)[B"⟩
abbrev y5b : ByteArray := jdk_52_method_14_code
abbrev y5r : Option Jvm.ClassFile.FieldType := (Option.some (Jvm.ClassFile.FieldType.array Jvm.ClassFile.FieldType.byte))
theorem c5_toBytes {Z a0} (hw : HW a0 Z) (hs : SF Z) {p1 : Addr} {x1 : Int32} (hx1 : 0 ≤ x1.toInt ∧ x1.toInt ≤ 65535) {x2 : Int32} (hx2 : 0 ≤ x2.toInt ∧ x2.toInt ≤ 65535) {x3 : Int32} (hx3 : 0 ≤ x3.toInt ∧ x3.toInt ≤ 65535) {w_p1 : Bool} {ad_p1 : String} {F : List Ent} (mp1 : (p1, w_p1, ar ad_p1 .char [(vi x1), (vi x2), (vi x3)]) ∈ F) : Con Z EL y5 y5b 5 y5r (rmm 2 1 6 24) [(vr p1), (vi 0), (vi 3)] (F) (fun v D' => (∃ a1 : Addr, v = some (vr a1) ∧ (a1, true, ar "[B" .byte [(vi x1.toInt8.toInt32), (vi (x1 >>> ((8 : Int32) &&& 31)).toInt8.toInt32), (vi x2.toInt8.toInt32), (vi (x2 >>> ((8 : Int32) &&& 31)).toInt8.toInt32), (vi x3.toInt8.toInt32), (vi (x3 >>> ((8 : Int32) &&& 31)).toInt8.toInt32)]) :: F = D')) := by
  refine Con.of (ls := #[rv p1, iv 0, iv 3, uu, uu]) (by decide +kernel) rfl ?_
  refine W.iloadN d35_0 rfl ?_
  refine W.callS (as := [(vi 3)]) 0 [] d35_1 (wq hw 194 rfl) (wq hw 195 rfl) (wq hw 145 rfl) (wq hw 196 rfl) (c6_newBytesFor hw hs) (by decide) pd_I__B rfl rfl rfl rfl (by decide) (fun v D' h => ?_)
  obtain ⟨a1, rfl, rfl⟩ := h
  show W _ _ _ _ _ _ _ _ _ _ _ _ 4 _ [(vr a1)]
  refine W.astoreN (ls' := #[rv p1, iv 0, iv 3, rv a1, uu]) d35_4 rfl rfl ?_
  refine W.iconst (0) d35_5 (by decide) ?_
  refine W.istore (ls' := #[rv p1, iv 0, iv 3, rv a1, iv 0]) d35_6 rfl ?_
  refine W.iload d35_8 rfl ?_
  refine W.iloadN d35_10 rfl ?_
  refine W.icmpN d35_11 (n_ge (by decide)) ?_
  refine W.aloadN d35_14 rfl rfl ?_
  refine W.iload d35_15 rfl ?_
  refine W.aloadN d35_17 rfl rfl ?_
  refine W.iloadN d35_18 rfl ?_
  refine W.caload 0 d35_19 (mS mp1) ix0 rfl ?_
  refine W.callS (as := [(vr a1), (vi 0), (vi x1)]) 0 [] d35_20 (wq hw 201 rfl) (wq hw 202 rfl) (wq hw 145 rfl) (wq hw 203 rfl) (c8_putChar hw hs (hx1 := hx1)) (by decide) pd__BII_V rfl rfl rfl rfl (by decide) (fun v D' h => ?_)
  obtain ⟨rfl, rfl⟩ := h
  show W _ _ _ _ _ _ _ _ _ _ _ _ 23 _ []
  refine W.iincK (ls' := #[rv p1, iv 1, iv 3, rv a1, iv 0]) (1) (1 : Int32) d35_23 (by decide) rfl (by decide) rfl ?_
  refine W.iincK (ls' := #[rv p1, iv 1, iv 3, rv a1, iv 1]) (1) (1 : Int32) d35_26 (by decide) rfl (by decide) rfl ?_
  refine W.goto 8 d35_29 (by decide) ?_
  refine W.iload d35_8 rfl ?_
  refine W.iloadN d35_10 rfl ?_
  refine W.icmpN d35_11 (n_ge (by decide)) ?_
  refine W.aloadN d35_14 rfl rfl ?_
  refine W.iload d35_15 rfl ?_
  refine W.aloadN d35_17 rfl rfl ?_
  refine W.iloadN d35_18 rfl ?_
  refine W.caload 1 d35_19 (mS mp1) ix1 rfl ?_
  refine W.callS (as := [(vr a1), (vi 1), (vi x2)]) 0 [] d35_20 (wq hw 201 rfl) (wq hw 202 rfl) (wq hw 145 rfl) (wq hw 203 rfl) (c9_putChar hw hs (hx1 := hx2)) (by decide) pd__BII_V rfl rfl rfl rfl (by decide) (fun v D' h => ?_)
  obtain ⟨rfl, rfl⟩ := h
  show W _ _ _ _ _ _ _ _ _ _ _ _ 23 _ []
  refine W.iincK (ls' := #[rv p1, iv 2, iv 3, rv a1, iv 1]) (1) (2 : Int32) d35_23 (by decide) rfl (by decide) rfl ?_
  refine W.iincK (ls' := #[rv p1, iv 2, iv 3, rv a1, iv 2]) (1) (2 : Int32) d35_26 (by decide) rfl (by decide) rfl ?_
  refine W.goto 8 d35_29 (by decide) ?_
  refine W.iload d35_8 rfl ?_
  refine W.iloadN d35_10 rfl ?_
  refine W.icmpN d35_11 (n_ge (by decide)) ?_
  refine W.aloadN d35_14 rfl rfl ?_
  refine W.iload d35_15 rfl ?_
  refine W.aloadN d35_17 rfl rfl ?_
  refine W.iloadN d35_18 rfl ?_
  refine W.caload 2 d35_19 (mS mp1) ix2 rfl ?_
  refine W.callS (as := [(vr a1), (vi 2), (vi x3)]) 0 [] d35_20 (wq hw 201 rfl) (wq hw 202 rfl) (wq hw 145 rfl) (wq hw 203 rfl) (c10_putChar hw hs (hx1 := hx3)) (by decide) pd__BII_V rfl rfl rfl rfl (by decide) (fun v D' h => ?_)
  obtain ⟨rfl, rfl⟩ := h
  show W _ _ _ _ _ _ _ _ _ _ _ _ 23 _ []
  refine W.iincK (ls' := #[rv p1, iv 3, iv 3, rv a1, iv 2]) (1) (3 : Int32) d35_23 (by decide) rfl (by decide) rfl ?_
  refine W.iincK (ls' := #[rv p1, iv 3, iv 3, rv a1, iv 3]) (1) (3 : Int32) d35_26 (by decide) rfl (by decide) rfl ?_
  refine W.goto 8 d35_29 (by decide) ?_
  refine W.iload d35_8 rfl ?_
  refine W.iloadN d35_10 rfl ?_
  refine W.icmpY 32 d35_11 (y_ge (by decide)) (by decide) ?_
  refine W.aloadN d35_32 rfl rfl ?_
  exact W.areturn d35_33 rfl rfl rfl (by decide) ⟨a1, rfl, rfl⟩
theorem pd__CII__B : parseMethodDescriptor "([CII)[B" = some ⟨[(.array .char), .int, .int], some (.array .byte)⟩ := by decide +kernel
theorem d23_26 : decode jdk_52_method_16_code 26 = .ok (.astore 5, 2) := by decide +kernel
theorem d23_28 : decode jdk_52_method_16_code 28 = .ok (.aload 5, 2) := by decide +kernel
theorem d23_30 : decode jdk_52_method_16_code 30 = .ok (.iload 4, 2) := by decide +kernel
theorem d23_32 : decode jdk_52_method_16_code 32 = .ok (.invokestatic 71, 3) := by decide +kernel
theorem d39_0 : decode jdk_52_method_5_code 0 = .ok (.getstatic 44, 3) := by decide +kernel
theorem d39_3 : decode jdk_52_method_5_code 3 = .ok (.ifCond .ne 25, 3) := by decide +kernel
theorem d39_28 : decode jdk_52_method_5_code 28 = .ok (.iload_n 1, 1) := by decide +kernel
theorem d39_29 : decode jdk_52_method_5_code 29 = .ok (.iconst 1, 1) := by decide +kernel
theorem d39_30 : decode jdk_52_method_5_code 30 = .ok (.ishl, 1) := by decide +kernel
theorem d39_31 : decode jdk_52_method_5_code 31 = .ok (.istore_n 1, 1) := by decide +kernel
theorem d39_32 : decode jdk_52_method_5_code 32 = .ok (.aload_n 0, 1) := by decide +kernel
theorem d39_33 : decode jdk_52_method_5_code 33 = .ok (.iload_n 1, 1) := by decide +kernel
theorem d39_34 : decode jdk_52_method_5_code 34 = .ok (.iinc 1 1, 3) := by decide +kernel
theorem d39_37 : decode jdk_52_method_5_code 37 = .ok (.baload, 1) := by decide +kernel
theorem d39_38 : decode jdk_52_method_5_code 38 = .ok (.sipush 255, 3) := by decide +kernel
theorem d39_41 : decode jdk_52_method_5_code 41 = .ok (.iand, 1) := by decide +kernel
theorem d39_42 : decode jdk_52_method_5_code 42 = .ok (.getstatic 59, 3) := by decide +kernel
theorem d39_45 : decode jdk_52_method_5_code 45 = .ok (.ishl, 1) := by decide +kernel
theorem d39_46 : decode jdk_52_method_5_code 46 = .ok (.aload_n 0, 1) := by decide +kernel
theorem d39_47 : decode jdk_52_method_5_code 47 = .ok (.iload_n 1, 1) := by decide +kernel
theorem d39_48 : decode jdk_52_method_5_code 48 = .ok (.baload, 1) := by decide +kernel
theorem d39_49 : decode jdk_52_method_5_code 49 = .ok (.sipush 255, 3) := by decide +kernel
theorem d39_52 : decode jdk_52_method_5_code 52 = .ok (.iand, 1) := by decide +kernel
theorem d39_53 : decode jdk_52_method_5_code 53 = .ok (.getstatic 63, 3) := by decide +kernel
theorem d39_56 : decode jdk_52_method_5_code 56 = .ok (.ishl, 1) := by decide +kernel
theorem d39_57 : decode jdk_52_method_5_code 57 = .ok (.ior, 1) := by decide +kernel
theorem am_255 (x : Int32) : (x &&& (255 : Int32)).toInt = x.toInt % 256 := a_and x 255 8 256 (by decide) (by decide) (by decide)
theorem ashl_8 (x : Int32) : ((x <<< ((8 : Int32) &&& 31)).toInt - x.toInt * 256) % 4294967296 = 0 ∧ -2147483648 ≤ (x <<< ((8 : Int32) &&& 31)).toInt ∧ (x <<< ((8 : Int32) &&& 31)).toInt < 2147483648 := a_shl x 8 8 256 (by decide) (by decide)
theorem d39_58 : decode jdk_52_method_5_code 58 = .ok (.i2c, 1) := by decide +kernel
theorem d39_59 : decode jdk_52_method_5_code 59 = .ok (.ireturn, 1) := by decide +kernel
abbrev y6 : MethodName := ⟨"java/lang/StringUTF16", "getChar", "([BI)C"⟩
abbrev y6b : ByteArray := jdk_52_method_5_code
abbrev y6r : Option Jvm.ClassFile.FieldType := (Option.some Jvm.ClassFile.FieldType.char)
theorem c11_getChar {Z a0} (hw : HW a0 Z) (hs : SF Z) {p1 : Addr} {x3 : Int32} (hx3 : 0 ≤ x3.toInt ∧ x3.toInt ≤ 65535) {e_p1_0 e_p1_1 e_p1_2 e_p1_3 : Value} {w_p1 : Bool} {ad_p1 : String} {F : List Ent} (mp1 : (p1, w_p1, ar ad_p1 .byte [e_p1_0, e_p1_1, e_p1_2, e_p1_3, (vi x3.toInt8.toInt32), (vi (x3 >>> ((8 : Int32) &&& 31)).toInt8.toInt32)]) ∈ F) : Con Z EL y6 y6b 2 y6r (rmm 0 0 0 0) [(vr p1), (vi 2)] (F) (fun v D' => (v = some (vi x3) ∧ F = D')) := by
  refine Con.of (ls := #[rv p1, iv 2]) (by decide +kernel) rfl ?_
  refine W.gets d39_0 (wq hw 204 rfl) Via.refl hs.2.2.2.2.1 ?_
  refine W.ifY 28 d39_3 (y_ne (by decide)) (by decide) ?_
  refine W.iloadN d39_28 rfl ?_
  refine W.iconst (1) d39_29 (by decide) ?_
  refine W.ishlK (4 : Int32) d39_30 (by decide) ?_
  refine W.istoreN (ls' := #[rv p1, iv 4]) d39_31 rfl ?_
  refine W.aloadN d39_32 rfl rfl ?_
  refine W.iloadN d39_33 rfl ?_
  refine W.iincK (ls' := #[rv p1, iv 5]) (1) (5 : Int32) d39_34 (by decide) rfl (by decide) rfl ?_
  refine W.baload 4 d39_37 mp1 ix4 rfl ?_
  refine W.sipush (255) d39_38 (by decide) ?_
  refine W.iand d39_41 ?_
  refine W.gets d39_42 (wq hw 205 rfl) Via.refl hs.2.2.2.2.2.1 ?_
  refine W.ishlK (x3.toInt8.toInt32 &&& (255 : Int32)) d39_45 (z_shl0 (x3.toInt8.toInt32 &&& (255 : Int32))) ?_
  refine W.aloadN d39_46 rfl rfl ?_
  refine W.iloadN d39_47 rfl ?_
  refine W.baload 5 d39_48 mp1 ix5 rfl ?_
  refine W.sipush (255) d39_49 (by decide) ?_
  refine W.iandK (x3 >>> ((8 : Int32) &&& 31)) d39_52 (z_b255 (by have := q8; have := ashr_8 x3; omega)) ?_
  refine W.gets d39_53 (wq hw 206 rfl) Via.refl hs.2.2.2.2.2.2.1 ?_
  refine W.ishl d39_56 ?_
  refine W.iorK x3 d39_57 (z_or8 hx3 (by have := a_i2b x3; have := q255; have := am_255 x3.toInt8.toInt32; omega) (by have := q8; have := ashr_8 x3; have := ashl_8 (x3 >>> ((8 : Int32) &&& 31)); omega)) ?_
  refine W.i2cK x3 d39_58 (z_i2c hx3) ?_
  exact W.ireturn d39_59 rfl (Or.inr (Or.inr (Or.inr (Or.inl rfl)))) (nw_char hx3) (by decide) ⟨rfl, rfl⟩
theorem pd__BI_C : parseMethodDescriptor "([BI)C" = some ⟨[(.array .byte), .int], some .char⟩ := by decide +kernel
theorem d23_35 : decode jdk_52_method_16_code 35 = .ok (.sipush 255, 3) := by decide +kernel
theorem d23_38 : decode jdk_52_method_16_code 38 = .ok (.if_icmp .gt 16, 3) := by decide +kernel
theorem d23_54 : decode jdk_52_method_16_code 54 = .ok (.aload 5, 2) := by decide +kernel
theorem d23_56 : decode jdk_52_method_16_code 56 = .ok (.areturn, 1) := by decide +kernel
theorem c12_getChar {Z a0} (hw : HW a0 Z) (hs : SF Z) {p1 : Addr} {x2 : Int32} (hx2 : 0 ≤ x2.toInt ∧ x2.toInt ≤ 65535) {e_p1_0 e_p1_1 e_p1_4 e_p1_5 : Value} {w_p1 : Bool} {ad_p1 : String} {F : List Ent} (mp1 : (p1, w_p1, ar ad_p1 .byte [e_p1_0, e_p1_1, (vi x2.toInt8.toInt32), (vi (x2 >>> ((8 : Int32) &&& 31)).toInt8.toInt32), e_p1_4, e_p1_5]) ∈ F) : Con Z EL y6 y6b 2 y6r (rmm 0 0 0 0) [(vr p1), (vi 1)] (F) (fun v D' => (v = some (vi x2) ∧ F = D')) := by
  refine Con.of (ls := #[rv p1, iv 1]) (by decide +kernel) rfl ?_
  refine W.gets d39_0 (wq hw 204 rfl) Via.refl hs.2.2.2.2.1 ?_
  refine W.ifY 28 d39_3 (y_ne (by decide)) (by decide) ?_
  refine W.iloadN d39_28 rfl ?_
  refine W.iconst (1) d39_29 (by decide) ?_
  refine W.ishlK (2 : Int32) d39_30 (by decide) ?_
  refine W.istoreN (ls' := #[rv p1, iv 2]) d39_31 rfl ?_
  refine W.aloadN d39_32 rfl rfl ?_
  refine W.iloadN d39_33 rfl ?_
  refine W.iincK (ls' := #[rv p1, iv 3]) (1) (3 : Int32) d39_34 (by decide) rfl (by decide) rfl ?_
  refine W.baload 2 d39_37 mp1 ix2 rfl ?_
  refine W.sipush (255) d39_38 (by decide) ?_
  refine W.iand d39_41 ?_
  refine W.gets d39_42 (wq hw 205 rfl) Via.refl hs.2.2.2.2.2.1 ?_
  refine W.ishlK (x2.toInt8.toInt32 &&& (255 : Int32)) d39_45 (z_shl0 (x2.toInt8.toInt32 &&& (255 : Int32))) ?_
  refine W.aloadN d39_46 rfl rfl ?_
  refine W.iloadN d39_47 rfl ?_
  refine W.baload 3 d39_48 mp1 ix3 rfl ?_
  refine W.sipush (255) d39_49 (by decide) ?_
  refine W.iandK (x2 >>> ((8 : Int32) &&& 31)) d39_52 (z_b255 (by have := q8; have := ashr_8 x2; omega)) ?_
  refine W.gets d39_53 (wq hw 206 rfl) Via.refl hs.2.2.2.2.2.2.1 ?_
  refine W.ishl d39_56 ?_
  refine W.iorK x2 d39_57 (z_or8 hx2 (by have := a_i2b x2; have := q255; have := am_255 x2.toInt8.toInt32; omega) (by have := q8; have := ashr_8 x2; have := ashl_8 (x2 >>> ((8 : Int32) &&& 31)); omega)) ?_
  refine W.i2cK x2 d39_58 (z_i2c hx2) ?_
  exact W.ireturn d39_59 rfl (Or.inr (Or.inr (Or.inr (Or.inl rfl)))) (nw_char hx2) (by decide) ⟨rfl, rfl⟩
theorem c13_getChar {Z a0} (hw : HW a0 Z) (hs : SF Z) {p1 : Addr} {x1 : Int32} (hx1 : 0 ≤ x1.toInt ∧ x1.toInt ≤ 65535) {e_p1_2 e_p1_3 e_p1_4 e_p1_5 : Value} {w_p1 : Bool} {ad_p1 : String} {F : List Ent} (mp1 : (p1, w_p1, ar ad_p1 .byte [(vi x1.toInt8.toInt32), (vi (x1 >>> ((8 : Int32) &&& 31)).toInt8.toInt32), e_p1_2, e_p1_3, e_p1_4, e_p1_5]) ∈ F) : Con Z EL y6 y6b 2 y6r (rmm 0 0 0 0) [(vr p1), (vi 0)] (F) (fun v D' => (v = some (vi x1) ∧ F = D')) := by
  refine Con.of (ls := #[rv p1, iv 0]) (by decide +kernel) rfl ?_
  refine W.gets d39_0 (wq hw 204 rfl) Via.refl hs.2.2.2.2.1 ?_
  refine W.ifY 28 d39_3 (y_ne (by decide)) (by decide) ?_
  refine W.iloadN d39_28 rfl ?_
  refine W.iconst (1) d39_29 (by decide) ?_
  refine W.ishlK (0 : Int32) d39_30 (by decide) ?_
  refine W.istoreN (ls' := #[rv p1, iv 0]) d39_31 rfl ?_
  refine W.aloadN d39_32 rfl rfl ?_
  refine W.iloadN d39_33 rfl ?_
  refine W.iincK (ls' := #[rv p1, iv 1]) (1) (1 : Int32) d39_34 (by decide) rfl (by decide) rfl ?_
  refine W.baload 0 d39_37 mp1 ix0 rfl ?_
  refine W.sipush (255) d39_38 (by decide) ?_
  refine W.iand d39_41 ?_
  refine W.gets d39_42 (wq hw 205 rfl) Via.refl hs.2.2.2.2.2.1 ?_
  refine W.ishlK (x1.toInt8.toInt32 &&& (255 : Int32)) d39_45 (z_shl0 (x1.toInt8.toInt32 &&& (255 : Int32))) ?_
  refine W.aloadN d39_46 rfl rfl ?_
  refine W.iloadN d39_47 rfl ?_
  refine W.baload 1 d39_48 mp1 ix1 rfl ?_
  refine W.sipush (255) d39_49 (by decide) ?_
  refine W.iandK (x1 >>> ((8 : Int32) &&& 31)) d39_52 (z_b255 (by have := q8; have := ashr_8 x1; omega)) ?_
  refine W.gets d39_53 (wq hw 206 rfl) Via.refl hs.2.2.2.2.2.2.1 ?_
  refine W.ishl d39_56 ?_
  refine W.iorK x1 d39_57 (z_or8 hx1 (by have := a_i2b x1; have := q255; have := am_255 x1.toInt8.toInt32; omega) (by have := q8; have := ashr_8 x1; have := ashl_8 (x1 >>> ((8 : Int32) &&& 31)); omega)) ?_
  refine W.i2cK x1 d39_58 (z_i2c hx1) ?_
  exact W.ireturn d39_59 rfl (Or.inr (Or.inr (Or.inr (Or.inl rfl)))) (nw_char hx1) (by decide) ⟨rfl, rfl⟩
abbrev y7 : MethodName := ⟨"java/lang/StringUTF16", "compress", "([CII)[B"⟩
abbrev y7b : ByteArray := jdk_52_method_16_code
abbrev y7r : Option Jvm.ClassFile.FieldType := (Option.some (Jvm.ClassFile.FieldType.array Jvm.ClassFile.FieldType.byte))
theorem c3_compress {Z a0} (hw : HW a0 Z) (hs : SF Z) {p1 : Addr} {x1 : Int32} (hx1 : 0 ≤ x1.toInt ∧ x1.toInt ≤ 65535) {x2 : Int32} (hx2 : 0 ≤ x2.toInt ∧ x2.toInt ≤ 65535) {x3 : Int32} (hx3 : 0 ≤ x3.toInt ∧ x3.toInt ≤ 65535) {w_p1 : Bool} {ad_p1 : String} {F : List Ent} (mp1 : (p1, w_p1, ar ad_p1 .char [(vi x1), (vi x2), (vi x3)]) ∈ F) : Con Z EL y7 y7b 6 y7r (rmm 3 2 9 40) [(vr p1), (vi 0), (vi 3)] (F) (fun v D' => (∃ a1 : Addr, Cd .le x1 (255 : Int32) ∧ Cd .le x2 (255 : Int32) ∧ Cd .le x3 (255 : Int32) ∧ v = some (vr a1) ∧ (a1, true, ar "[B" .byte [(vi x1.toInt8.toInt32), (vi x2.toInt8.toInt32), (vi x3.toInt8.toInt32)]) :: F = D') ∨ (∃ a2 : Addr, Cd .le x1 (255 : Int32) ∧ Cd .le x2 (255 : Int32) ∧ ¬ Cd .le x3 (255 : Int32) ∧ v = some (vr a2) ∧ (a2, true, ar "[B" .byte [(vi x1.toInt8.toInt32), (vi (x1 >>> ((8 : Int32) &&& 31)).toInt8.toInt32), (vi x2.toInt8.toInt32), (vi (x2 >>> ((8 : Int32) &&& 31)).toInt8.toInt32), (vi x3.toInt8.toInt32), (vi (x3 >>> ((8 : Int32) &&& 31)).toInt8.toInt32)]) :: F = D') ∨ (∃ a3 : Addr, Cd .le x1 (255 : Int32) ∧ ¬ Cd .le x2 (255 : Int32) ∧ v = some (vr a3) ∧ (a3, true, ar "[B" .byte [(vi x1.toInt8.toInt32), (vi (x1 >>> ((8 : Int32) &&& 31)).toInt8.toInt32), (vi x2.toInt8.toInt32), (vi (x2 >>> ((8 : Int32) &&& 31)).toInt8.toInt32), (vi x3.toInt8.toInt32), (vi (x3 >>> ((8 : Int32) &&& 31)).toInt8.toInt32)]) :: F = D') ∨ (∃ a4 : Addr, ¬ Cd .le x1 (255 : Int32) ∧ v = some (vr a4) ∧ (a4, true, ar "[B" .byte [(vi x1.toInt8.toInt32), (vi (x1 >>> ((8 : Int32) &&& 31)).toInt8.toInt32), (vi x2.toInt8.toInt32), (vi (x2 >>> ((8 : Int32) &&& 31)).toInt8.toInt32), (vi x3.toInt8.toInt32), (vi (x3 >>> ((8 : Int32) &&& 31)).toInt8.toInt32)]) :: F = D')) := by
  refine Con.of (ls := #[rv p1, iv 0, iv 3, uu, uu, uu]) (by decide +kernel) rfl ?_
  refine W.iloadN d23_0 rfl ?_
  refine W.newarr 3 (ad := "[B") (ty := .byte) d23_1 rfl (wq hw 15 rfl) ix3 rfl (by decide) (by decide) (fun a1 => ?_)
  show W _ _ _ _ _ _ _ _ _ _ _ _ 3 _ [(vr a1)]
  refine W.astoreN (ls' := #[rv p1, iv 0, iv 3, rv a1, uu, uu]) d23_3 rfl rfl ?_
  refine W.aloadN d23_4 rfl rfl ?_
  refine W.iloadN d23_5 rfl ?_
  refine W.aloadN d23_6 rfl rfl ?_
  refine W.iconst (0) d23_7 (by decide) ?_
  refine W.iloadN d23_8 rfl ?_
  refine W.callS (as := [(vr p1), (vi 0), (vr a1), (vi 0), (vi 3)]) 0 [] d23_9 (wq hw 147 rfl) (wq hw 148 rfl) (wq hw 145 rfl) (wq hw 149 rfl) (c4_compress hw hs (hx1 := hx1) (hx2 := hx2) (hx3 := hx3) (mp1 := mp1)) (by decide) pd__CI_BII_I rfl rfl rfl rfl (by decide) (fun v D' h => ?_)
  rcases h with ⟨h1, h2, h3, rfl, rfl⟩ | ⟨h4, h5, h6, rfl, rfl⟩ | ⟨h7, h8, rfl, rfl⟩ | ⟨h9, rfl, rfl⟩
  ·
   have ih1 := t_le h1
   have ih2 := t_le h2
   have ih3 := t_le h3
   show W _ _ _ _ _ _ _ _ _ _ _ _ 12 _ [(vi 3)]
   refine W.istore (ls' := #[rv p1, iv 0, iv 3, rv a1, iv 3, uu]) d23_12 rfl ?_
   refine W.iload d23_14 rfl ?_
   refine W.iloadN d23_16 rfl ?_
   refine W.icmpY 57 d23_17 (y_eq (by decide)) (by decide) ?_
   refine W.aloadN d23_57 rfl rfl ?_
   exact W.areturn d23_58 rfl rfl rfl (by decide) (Or.inl ⟨a1, h1, h2, h3, rfl, rfl⟩)
  ·
   have ih4 := t_le h4
   have ih5 := t_le h5
   have ih6 := f_le h6
   show W _ _ _ _ _ _ _ _ _ _ _ _ 12 _ [(vi 2)]
   refine W.istore (ls' := #[rv p1, iv 0, iv 3, rv a1, iv 2, uu]) d23_12 rfl ?_
   refine W.iload d23_14 rfl ?_
   refine W.iloadN d23_16 rfl ?_
   refine W.icmpN d23_17 (n_eq (by decide)) ?_
   refine W.aloadN d23_20 rfl rfl ?_
   refine W.iloadN d23_21 rfl ?_
   refine W.iloadN d23_22 rfl ?_
   refine W.callS (as := [(vr p1), (vi 0), (vi 3)]) 0 [] d23_23 (wq hw 191 rfl) (wq hw 192 rfl) (wq hw 145 rfl) (wq hw 193 rfl) (c5_toBytes hw hs (hx1 := hx1) (hx2 := hx2) (hx3 := hx3) (mp1 := (mS mp1))) (by decide) pd__CII__B rfl rfl rfl rfl (by decide) (fun v D' h => ?_)
   obtain ⟨a2, rfl, rfl⟩ := h
   show W _ _ _ _ _ _ _ _ _ _ _ _ 26 _ [(vr a2)]
   refine W.astore (ls' := #[rv p1, iv 0, iv 3, rv a1, iv 2, rv a2]) d23_26 rfl rfl ?_
   refine W.aload 5 d23_28 rfl rfl ?_
   refine W.iload d23_30 rfl ?_
   refine W.callS (as := [(vr a2), (vi 2)]) 0 [] d23_32 (wq hw 207 rfl) (wq hw 208 rfl) (wq hw 145 rfl) (wq hw 209 rfl) (c11_getChar hw hs (hx3 := hx3) (mp1 := m0)) (by decide) pd__BI_C rfl rfl rfl rfl (by decide) (fun v D' h => ?_)
   obtain ⟨rfl, rfl⟩ := h
   show W _ _ _ _ _ _ _ _ _ _ _ _ 35 _ [(vi x3)]
   refine W.sipush (255) d23_35 (by decide) ?_
   refine W.icmpY 54 d23_38 (y_gt (by have := q255; omega)) (by decide) ?_
   refine W.aload 5 d23_54 rfl rfl ?_
   refine W.dropAt 1 (D' := (a2, true, ar "[B" .byte [(vi x1.toInt8.toInt32), (vi (x1 >>> ((8 : Int32) &&& 31)).toInt8.toInt32), (vi x2.toInt8.toInt32), (vi (x2 >>> ((8 : Int32) &&& 31)).toInt8.toInt32), (vi x3.toInt8.toInt32), (vi (x3 >>> ((8 : Int32) &&& 31)).toInt8.toInt32)]) :: F) rfl ?_
   exact W.areturn d23_56 rfl rfl rfl (by decide) (Or.inr (Or.inl ⟨a2, h4, h5, h6, rfl, rfl⟩))
  ·
   have ih7 := t_le h7
   have ih8 := f_le h8
   show W _ _ _ _ _ _ _ _ _ _ _ _ 12 _ [(vi 1)]
   refine W.istore (ls' := #[rv p1, iv 0, iv 3, rv a1, iv 1, uu]) d23_12 rfl ?_
   refine W.iload d23_14 rfl ?_
   refine W.iloadN d23_16 rfl ?_
   refine W.icmpN d23_17 (n_eq (by decide)) ?_
   refine W.aloadN d23_20 rfl rfl ?_
   refine W.iloadN d23_21 rfl ?_
   refine W.iloadN d23_22 rfl ?_
   refine W.callS (as := [(vr p1), (vi 0), (vi 3)]) 0 [] d23_23 (wq hw 191 rfl) (wq hw 192 rfl) (wq hw 145 rfl) (wq hw 193 rfl) (c5_toBytes hw hs (hx1 := hx1) (hx2 := hx2) (hx3 := hx3) (mp1 := (mS mp1))) (by decide) pd__CII__B rfl rfl rfl rfl (by decide) (fun v D' h => ?_)
   obtain ⟨a3, rfl, rfl⟩ := h
   show W _ _ _ _ _ _ _ _ _ _ _ _ 26 _ [(vr a3)]
   refine W.astore (ls' := #[rv p1, iv 0, iv 3, rv a1, iv 1, rv a3]) d23_26 rfl rfl ?_
   refine W.aload 5 d23_28 rfl rfl ?_
   refine W.iload d23_30 rfl ?_
   refine W.callS (as := [(vr a3), (vi 1)]) 0 [] d23_32 (wq hw 207 rfl) (wq hw 208 rfl) (wq hw 145 rfl) (wq hw 209 rfl) (c12_getChar hw hs (hx2 := hx2) (mp1 := m0)) (by decide) pd__BI_C rfl rfl rfl rfl (by decide) (fun v D' h => ?_)
   obtain ⟨rfl, rfl⟩ := h
   show W _ _ _ _ _ _ _ _ _ _ _ _ 35 _ [(vi x2)]
   refine W.sipush (255) d23_35 (by decide) ?_
   refine W.icmpY 54 d23_38 (y_gt (by have := q255; omega)) (by decide) ?_
   refine W.aload 5 d23_54 rfl rfl ?_
   refine W.dropAt 1 (D' := (a3, true, ar "[B" .byte [(vi x1.toInt8.toInt32), (vi (x1 >>> ((8 : Int32) &&& 31)).toInt8.toInt32), (vi x2.toInt8.toInt32), (vi (x2 >>> ((8 : Int32) &&& 31)).toInt8.toInt32), (vi x3.toInt8.toInt32), (vi (x3 >>> ((8 : Int32) &&& 31)).toInt8.toInt32)]) :: F) rfl ?_
   exact W.areturn d23_56 rfl rfl rfl (by decide) (Or.inr (Or.inr (Or.inl ⟨a3, h7, h8, rfl, rfl⟩)))
  ·
   have ih9 := f_le h9
   show W _ _ _ _ _ _ _ _ _ _ _ _ 12 _ [(vi 0)]
   refine W.istore (ls' := #[rv p1, iv 0, iv 3, rv a1, iv 0, uu]) d23_12 rfl ?_
   refine W.iload d23_14 rfl ?_
   refine W.iloadN d23_16 rfl ?_
   refine W.icmpN d23_17 (n_eq (by decide)) ?_
   refine W.aloadN d23_20 rfl rfl ?_
   refine W.iloadN d23_21 rfl ?_
   refine W.iloadN d23_22 rfl ?_
   refine W.callS (as := [(vr p1), (vi 0), (vi 3)]) 0 [] d23_23 (wq hw 191 rfl) (wq hw 192 rfl) (wq hw 145 rfl) (wq hw 193 rfl) (c5_toBytes hw hs (hx1 := hx1) (hx2 := hx2) (hx3 := hx3) (mp1 := (mS mp1))) (by decide) pd__CII__B rfl rfl rfl rfl (by decide) (fun v D' h => ?_)
   obtain ⟨a4, rfl, rfl⟩ := h
   show W _ _ _ _ _ _ _ _ _ _ _ _ 26 _ [(vr a4)]
   refine W.astore (ls' := #[rv p1, iv 0, iv 3, rv a1, iv 0, rv a4]) d23_26 rfl rfl ?_
   refine W.aload 5 d23_28 rfl rfl ?_
   refine W.iload d23_30 rfl ?_
   refine W.callS (as := [(vr a4), (vi 0)]) 0 [] d23_32 (wq hw 207 rfl) (wq hw 208 rfl) (wq hw 145 rfl) (wq hw 209 rfl) (c13_getChar hw hs (hx1 := hx1) (mp1 := m0)) (by decide) pd__BI_C rfl rfl rfl rfl (by decide) (fun v D' h => ?_)
   obtain ⟨rfl, rfl⟩ := h
   show W _ _ _ _ _ _ _ _ _ _ _ _ 35 _ [(vi x1)]
   refine W.sipush (255) d23_35 (by decide) ?_
   refine W.icmpY 54 d23_38 (y_gt (by have := q255; omega)) (by decide) ?_
   refine W.aload 5 d23_54 rfl rfl ?_
   refine W.dropAt 1 (D' := (a4, true, ar "[B" .byte [(vi x1.toInt8.toInt32), (vi (x1 >>> ((8 : Int32) &&& 31)).toInt8.toInt32), (vi x2.toInt8.toInt32), (vi (x2 >>> ((8 : Int32) &&& 31)).toInt8.toInt32), (vi x3.toInt8.toInt32), (vi (x3 >>> ((8 : Int32) &&& 31)).toInt8.toInt32)]) :: F) rfl ?_
   exact W.areturn d23_56 rfl rfl rfl (by decide) (Or.inr (Or.inr (Or.inr ⟨a4, h9, rfl, rfl⟩)))
theorem d2_39 : decode jdk_42_method_149_code 39 = .ok (.astore 5, 2) := by decide +kernel
theorem d2_41 : decode jdk_42_method_149_code 41 = .ok (.aload_n 0, 1) := by decide +kernel
theorem d2_42 : decode jdk_42_method_149_code 42 = .ok (.aload 5, 2) := by decide +kernel
theorem d2_44 : decode jdk_42_method_149_code 44 = .ok (.iload_n 3, 1) := by decide +kernel
theorem d2_45 : decode jdk_42_method_149_code 45 = .ok (.invokestatic 47, 3) := by decide +kernel
theorem d25_0 : decode jdk_52_method_15_code 0 = .ok (.iload_n 1, 1) := by decide +kernel
theorem d25_1 : decode jdk_52_method_15_code 1 = .ok (.aload_n 0, 1) := by decide +kernel
theorem d25_2 : decode jdk_52_method_15_code 2 = .ok (.arraylength, 1) := by decide +kernel
theorem d25_3 : decode jdk_52_method_15_code 3 = .ok (.isub, 1) := by decide +kernel
theorem d25_4 : decode jdk_52_method_15_code 4 = .ok (.bipush 31, 2) := by decide +kernel
theorem d25_6 : decode jdk_52_method_15_code 6 = .ok (.iushr, 1) := by decide +kernel
theorem d25_7 : decode jdk_52_method_15_code 7 = .ok (.i2b, 1) := by decide +kernel
theorem d25_8 : decode jdk_52_method_15_code 8 = .ok (.ireturn, 1) := by decide +kernel
abbrev y8 : MethodName := ⟨"java/lang/StringUTF16", "coderFromArrayLen", "([BI)B"⟩
abbrev y8b : ByteArray := jdk_52_method_15_code
abbrev y8r : Option Jvm.ClassFile.FieldType := (Option.some Jvm.ClassFile.FieldType.byte)
theorem c14_coderFromArrayLen {Z a0} (hw : HW a0 Z) (hs : SF Z) {p1 : Addr} {vs_p1 : List Value} (hvs_p1 : vs_p1.length = 3) {w_p1 : Bool} {ad_p1 : String} {F : List Ent} (mp1 : (p1, w_p1, ar ad_p1 .byte vs_p1) ∈ F) : Con Z EL y8 y8b 2 y8r (rmm 0 0 0 0) [(vr p1), (vi 3)] (F) (fun v D' => (v = some (vi 0) ∧ F = D')) := by
  refine Con.of (ls := #[rv p1, iv 3]) (by decide +kernel) rfl ?_
  refine W.iloadN d25_0 rfl ?_
  refine W.aloadN d25_1 rfl rfl ?_
  refine W.alen (3) d25_2 mp1 (by rw [hvs_p1]; rfl) ?_
  refine W.isubK (0 : Int32) d25_3 (by decide) ?_
  refine W.bipush (31) d25_4 (by decide) ?_
  refine W.iushrK (0 : Int32) d25_6 (by decide) ?_
  refine W.i2bK (0 : Int32) d25_7 (by decide) ?_
  exact W.ireturn d25_8 rfl (Or.inr (Or.inr (Or.inl rfl))) (nw_byte (by decide)) (by decide) ⟨rfl, rfl⟩
theorem pd__BI_B : parseMethodDescriptor "([BI)B" = some ⟨[(.array .byte), .int], some .byte⟩ := by decide +kernel
theorem d2_48 : decode jdk_42_method_149_code 48 = .ok (.putfield 15, 3) := by decide +kernel
theorem pfB : parseFieldDescriptor "B" = some .byte := by decide
abbrev oString (f0 f1 : Value) : Desc := .inl ("java/lang/String", [("java/lang/String", "value", "[B", f0), ("java/lang/String", "coder", "B", f1)])
theorem d2_51 : decode jdk_42_method_149_code 51 = .ok (.aload_n 0, 1) := by decide +kernel
theorem d2_52 : decode jdk_42_method_149_code 52 = .ok (.aload 5, 2) := by decide +kernel
theorem d2_54 : decode jdk_42_method_149_code 54 = .ok (.putfield 9, 3) := by decide +kernel
theorem pf_B : parseFieldDescriptor "[B" = some (.array .byte) := by decide
theorem d2_57 : decode jdk_42_method_149_code 57 = .ok (.return_, 1) := by decide +kernel
theorem c15_coderFromArrayLen {Z a0} (hw : HW a0 Z) (hs : SF Z) {p1 : Addr} {vs_p1 : List Value} (hvs_p1 : vs_p1.length = 6) {w_p1 : Bool} {ad_p1 : String} {F : List Ent} (mp1 : (p1, w_p1, ar ad_p1 .byte vs_p1) ∈ F) : Con Z EL y8 y8b 2 y8r (rmm 0 0 0 0) [(vr p1), (vi 3)] (F) (fun v D' => (v = some (vi 1) ∧ F = D')) := by
  refine Con.of (ls := #[rv p1, iv 3]) (by decide +kernel) rfl ?_
  refine W.iloadN d25_0 rfl ?_
  refine W.aloadN d25_1 rfl rfl ?_
  refine W.alen (6) d25_2 mp1 (by rw [hvs_p1]; rfl) ?_
  refine W.isubK (-3 : Int32) d25_3 (by decide) ?_
  refine W.bipush (31) d25_4 (by decide) ?_
  refine W.iushrK (1 : Int32) d25_6 (by decide) ?_
  refine W.i2bK (1 : Int32) d25_7 (by decide) ?_
  exact W.ireturn d25_8 rfl (Or.inr (Or.inr (Or.inl rfl))) (nw_byte (by decide)) (by decide) ⟨rfl, rfl⟩
abbrev y9 : MethodName := ⟨"java/lang/String", "<init>", "([CIILjava/lang/Void;)V"⟩
abbrev y9b : ByteArray := jdk_42_method_149_code
abbrev y9r : Option Jvm.ClassFile.FieldType := (Option.none : Option Jvm.ClassFile.FieldType)
theorem c2_init {Z a0} (hw : HW a0 Z) (hs : SF Z) {p1 p2 : Addr} {x1 : Int32} (hx1 : 0 ≤ x1.toInt ∧ x1.toInt ≤ 65535) {x2 : Int32} (hx2 : 0 ≤ x2.toInt ∧ x2.toInt ≤ 65535) {x3 : Int32} (hx3 : 0 ≤ x3.toInt ∧ x3.toInt ≤ 65535) {w_p2 : Bool} {ad_p2 : String} {F : List Ent} (mp2 : (p2, w_p2, ar ad_p2 .char [(vi x1), (vi x2), (vi x3)]) ∈ F) : Con Z EL y9 y9b 6 y9r (rmm 4 2 9 57) [(vr p1), (vr p2), (vi 0), (vi 3), .null] ((p1, true, oString .null (vi 0)) :: F) (fun v D' => (∃ a1 : Addr, Cd .le x1 (255 : Int32) ∧ Cd .le x2 (255 : Int32) ∧ Cd .le x3 (255 : Int32) ∧ v = none ∧ (a1, true, ar "[B" .byte [(vi x1.toInt8.toInt32), (vi x2.toInt8.toInt32), (vi x3.toInt8.toInt32)]) :: (p1, true, oString (vr a1) (vi 0)) :: F = D') ∨ (∃ a2 : Addr, Cd .le x1 (255 : Int32) ∧ Cd .le x2 (255 : Int32) ∧ ¬ Cd .le x3 (255 : Int32) ∧ v = none ∧ (a2, true, ar "[B" .byte [(vi x1.toInt8.toInt32), (vi (x1 >>> ((8 : Int32) &&& 31)).toInt8.toInt32), (vi x2.toInt8.toInt32), (vi (x2 >>> ((8 : Int32) &&& 31)).toInt8.toInt32), (vi x3.toInt8.toInt32), (vi (x3 >>> ((8 : Int32) &&& 31)).toInt8.toInt32)]) :: (p1, true, oString (vr a2) (vi 1)) :: F = D') ∨ (∃ a3 : Addr, Cd .le x1 (255 : Int32) ∧ ¬ Cd .le x2 (255 : Int32) ∧ v = none ∧ (a3, true, ar "[B" .byte [(vi x1.toInt8.toInt32), (vi (x1 >>> ((8 : Int32) &&& 31)).toInt8.toInt32), (vi x2.toInt8.toInt32), (vi (x2 >>> ((8 : Int32) &&& 31)).toInt8.toInt32), (vi x3.toInt8.toInt32), (vi (x3 >>> ((8 : Int32) &&& 31)).toInt8.toInt32)]) :: (p1, true, oString (vr a3) (vi 1)) :: F = D') ∨ (∃ a4 : Addr, ¬ Cd .le x1 (255 : Int32) ∧ v = none ∧ (a4, true, ar "[B" .byte [(vi x1.toInt8.toInt32), (vi (x1 >>> ((8 : Int32) &&& 31)).toInt8.toInt32), (vi x2.toInt8.toInt32), (vi (x2 >>> ((8 : Int32) &&& 31)).toInt8.toInt32), (vi x3.toInt8.toInt32), (vi (x3 >>> ((8 : Int32) &&& 31)).toInt8.toInt32)]) :: (p1, true, oString (vr a4) (vi 1)) :: F = D')) := by
  refine Con.of (ls := #[rv p1, rv p2, iv 0, iv 3, .val .null, uu]) (by decide +kernel) rfl ?_
  refine W.aloadN d2_0 rfl rfl ?_
  refine W.initO 0 d2_1 (wq hw 11 rfl) (wq hw 12 rfl) (wq hw 13 rfl) rfl rfl (by decide) ?_
  refine W.iloadN d2_4 rfl ?_
  refine W.ifY 27 d2_5 (y_ne (by decide)) (by decide) ?_
  refine W.gets d2_27 (wq hw 63 rfl) Via.refl hs.1 ?_
  refine W.ifN d2_30 (n_eq (by have := hs.2.1; have := q0; omega)) ?_
  refine W.aloadN d2_33 rfl rfl ?_
  refine W.iloadN d2_34 rfl ?_
  refine W.iloadN d2_35 rfl ?_
  refine W.callS (as := [(vr p2), (vi 0), (vi 3)]) 0 [] d2_36 (wq hw 143 rfl) (wq hw 144 rfl) (wq hw 145 rfl) (wq hw 146 rfl) (c3_compress hw hs (hx1 := hx1) (hx2 := hx2) (hx3 := hx3) (mp1 := (mS mp2))) (by decide) pd__CII__B rfl rfl rfl rfl (by decide) (fun v D' h => ?_)
  rcases h with ⟨a1, h1, h2, h3, rfl, rfl⟩ | ⟨a2, h4, h5, h6, rfl, rfl⟩ | ⟨a3, h7, h8, rfl, rfl⟩ | ⟨a4, h9, rfl, rfl⟩
  ·
   have ih1 := t_le h1
   have ih2 := t_le h2
   have ih3 := t_le h3
   show W _ _ _ _ _ _ _ _ _ _ _ _ 39 _ [(vr a1)]
   refine W.astore (ls' := #[rv p1, rv p2, iv 0, iv 3, .val .null, rv a1]) d2_39 rfl rfl ?_
   refine W.aloadN d2_41 rfl rfl ?_
   refine W.aload 5 d2_42 rfl rfl ?_
   refine W.iloadN d2_44 rfl ?_
   refine W.callS (as := [(vr a1), (vi 3)]) 1 [(vr p1)] d2_45 (wq hw 150 rfl) (wq hw 151 rfl) (wq hw 145 rfl) (wq hw 152 rfl) (c14_coderFromArrayLen hw hs (hvs_p1 := rfl) (mp1 := m0)) (by decide) pd__BI_B rfl rfl rfl rfl (by decide) (fun v D' h => ?_)
   obtain ⟨rfl, rfl⟩ := h
   show W _ _ _ _ _ _ _ _ _ _ _ _ 48 _ [(vi 0), (vr p1)]
   refine W.putf (D' := (a1, true, ar "[B" .byte [(vi x1.toInt8.toInt32), (vi x2.toInt8.toInt32), (vi x3.toInt8.toInt32)]) :: (p1, true, oString .null (vi 0)) :: F) 1 1 d2_48 (wq hw 21 rfl) Via.refl rfl rfl (Or.inr ⟨(wq hw 17 rfl), rfl, rfl⟩) (wq hw 2 rfl) pfB (nw_byte (by decide)) (ft_byte (by decide)) rfl ?_
   refine W.aloadN d2_51 rfl rfl ?_
   refine W.aload 5 d2_52 rfl rfl ?_
   refine W.putf (D' := (a1, true, ar "[B" .byte [(vi x1.toInt8.toInt32), (vi x2.toInt8.toInt32), (vi x3.toInt8.toInt32)]) :: (p1, true, oString (vr a1) (vi 0)) :: F) 1 0 d2_54 (wq hw 20 rfl) Via.refl rfl rfl (Or.inr ⟨(wq hw 16 rfl), rfl, rfl⟩) (wq hw 2 rfl) pf_B rfl rfl rfl ?_
   exact W.return_ d2_57 rfl (by decide) (Or.inl ⟨a1, h1, h2, h3, rfl, rfl⟩)
  ·
   have ih4 := t_le h4
   have ih5 := t_le h5
   have ih6 := f_le h6
   show W _ _ _ _ _ _ _ _ _ _ _ _ 39 _ [(vr a2)]
   refine W.astore (ls' := #[rv p1, rv p2, iv 0, iv 3, .val .null, rv a2]) d2_39 rfl rfl ?_
   refine W.aloadN d2_41 rfl rfl ?_
   refine W.aload 5 d2_42 rfl rfl ?_
   refine W.iloadN d2_44 rfl ?_
   refine W.callS (as := [(vr a2), (vi 3)]) 1 [(vr p1)] d2_45 (wq hw 150 rfl) (wq hw 151 rfl) (wq hw 145 rfl) (wq hw 152 rfl) (c15_coderFromArrayLen hw hs (hvs_p1 := rfl) (mp1 := m0)) (by decide) pd__BI_B rfl rfl rfl rfl (by decide) (fun v D' h => ?_)
   obtain ⟨rfl, rfl⟩ := h
   show W _ _ _ _ _ _ _ _ _ _ _ _ 48 _ [(vi 1), (vr p1)]
   refine W.putf (D' := (a2, true, ar "[B" .byte [(vi x1.toInt8.toInt32), (vi (x1 >>> ((8 : Int32) &&& 31)).toInt8.toInt32), (vi x2.toInt8.toInt32), (vi (x2 >>> ((8 : Int32) &&& 31)).toInt8.toInt32), (vi x3.toInt8.toInt32), (vi (x3 >>> ((8 : Int32) &&& 31)).toInt8.toInt32)]) :: (p1, true, oString .null (vi 1)) :: F) 1 1 d2_48 (wq hw 21 rfl) Via.refl rfl rfl (Or.inr ⟨(wq hw 17 rfl), rfl, rfl⟩) (wq hw 2 rfl) pfB (nw_byte (by decide)) (ft_byte (by decide)) rfl ?_
   refine W.aloadN d2_51 rfl rfl ?_
   refine W.aload 5 d2_52 rfl rfl ?_
   refine W.putf (D' := (a2, true, ar "[B" .byte [(vi x1.toInt8.toInt32), (vi (x1 >>> ((8 : Int32) &&& 31)).toInt8.toInt32), (vi x2.toInt8.toInt32), (vi (x2 >>> ((8 : Int32) &&& 31)).toInt8.toInt32), (vi x3.toInt8.toInt32), (vi (x3 >>> ((8 : Int32) &&& 31)).toInt8.toInt32)]) :: (p1, true, oString (vr a2) (vi 1)) :: F) 1 0 d2_54 (wq hw 20 rfl) Via.refl rfl rfl (Or.inr ⟨(wq hw 16 rfl), rfl, rfl⟩) (wq hw 2 rfl) pf_B rfl rfl rfl ?_
   exact W.return_ d2_57 rfl (by decide) (Or.inr (Or.inl ⟨a2, h4, h5, h6, rfl, rfl⟩))
  ·
   have ih7 := t_le h7
   have ih8 := f_le h8
   show W _ _ _ _ _ _ _ _ _ _ _ _ 39 _ [(vr a3)]
   refine W.astore (ls' := #[rv p1, rv p2, iv 0, iv 3, .val .null, rv a3]) d2_39 rfl rfl ?_
   refine W.aloadN d2_41 rfl rfl ?_
   refine W.aload 5 d2_42 rfl rfl ?_
   refine W.iloadN d2_44 rfl ?_
   refine W.callS (as := [(vr a3), (vi 3)]) 1 [(vr p1)] d2_45 (wq hw 150 rfl) (wq hw 151 rfl) (wq hw 145 rfl) (wq hw 152 rfl) (c15_coderFromArrayLen hw hs (hvs_p1 := rfl) (mp1 := m0)) (by decide) pd__BI_B rfl rfl rfl rfl (by decide) (fun v D' h => ?_)
   obtain ⟨rfl, rfl⟩ := h
   show W _ _ _ _ _ _ _ _ _ _ _ _ 48 _ [(vi 1), (vr p1)]
   refine W.putf (D' := (a3, true, ar "[B" .byte [(vi x1.toInt8.toInt32), (vi (x1 >>> ((8 : Int32) &&& 31)).toInt8.toInt32), (vi x2.toInt8.toInt32), (vi (x2 >>> ((8 : Int32) &&& 31)).toInt8.toInt32), (vi x3.toInt8.toInt32), (vi (x3 >>> ((8 : Int32) &&& 31)).toInt8.toInt32)]) :: (p1, true, oString .null (vi 1)) :: F) 1 1 d2_48 (wq hw 21 rfl) Via.refl rfl rfl (Or.inr ⟨(wq hw 17 rfl), rfl, rfl⟩) (wq hw 2 rfl) pfB (nw_byte (by decide)) (ft_byte (by decide)) rfl ?_
   refine W.aloadN d2_51 rfl rfl ?_
   refine W.aload 5 d2_52 rfl rfl ?_
   refine W.putf (D' := (a3, true, ar "[B" .byte [(vi x1.toInt8.toInt32), (vi (x1 >>> ((8 : Int32) &&& 31)).toInt8.toInt32), (vi x2.toInt8.toInt32), (vi (x2 >>> ((8 : Int32) &&& 31)).toInt8.toInt32), (vi x3.toInt8.toInt32), (vi (x3 >>> ((8 : Int32) &&& 31)).toInt8.toInt32)]) :: (p1, true, oString (vr a3) (vi 1)) :: F) 1 0 d2_54 (wq hw 20 rfl) Via.refl rfl rfl (Or.inr ⟨(wq hw 16 rfl), rfl, rfl⟩) (wq hw 2 rfl) pf_B rfl rfl rfl ?_
   exact W.return_ d2_57 rfl (by decide) (Or.inr (Or.inr (Or.inl ⟨a3, h7, h8, rfl, rfl⟩)))
  ·
   have ih9 := f_le h9
   show W _ _ _ _ _ _ _ _ _ _ _ _ 39 _ [(vr a4)]
   refine W.astore (ls' := #[rv p1, rv p2, iv 0, iv 3, .val .null, rv a4]) d2_39 rfl rfl ?_
   refine W.aloadN d2_41 rfl rfl ?_
   refine W.aload 5 d2_42 rfl rfl ?_
   refine W.iloadN d2_44 rfl ?_
   refine W.callS (as := [(vr a4), (vi 3)]) 1 [(vr p1)] d2_45 (wq hw 150 rfl) (wq hw 151 rfl) (wq hw 145 rfl) (wq hw 152 rfl) (c15_coderFromArrayLen hw hs (hvs_p1 := rfl) (mp1 := m0)) (by decide) pd__BI_B rfl rfl rfl rfl (by decide) (fun v D' h => ?_)
   obtain ⟨rfl, rfl⟩ := h
   show W _ _ _ _ _ _ _ _ _ _ _ _ 48 _ [(vi 1), (vr p1)]
   refine W.putf (D' := (a4, true, ar "[B" .byte [(vi x1.toInt8.toInt32), (vi (x1 >>> ((8 : Int32) &&& 31)).toInt8.toInt32), (vi x2.toInt8.toInt32), (vi (x2 >>> ((8 : Int32) &&& 31)).toInt8.toInt32), (vi x3.toInt8.toInt32), (vi (x3 >>> ((8 : Int32) &&& 31)).toInt8.toInt32)]) :: (p1, true, oString .null (vi 1)) :: F) 1 1 d2_48 (wq hw 21 rfl) Via.refl rfl rfl (Or.inr ⟨(wq hw 17 rfl), rfl, rfl⟩) (wq hw 2 rfl) pfB (nw_byte (by decide)) (ft_byte (by decide)) rfl ?_
   refine W.aloadN d2_51 rfl rfl ?_
   refine W.aload 5 d2_52 rfl rfl ?_
   refine W.putf (D' := (a4, true, ar "[B" .byte [(vi x1.toInt8.toInt32), (vi (x1 >>> ((8 : Int32) &&& 31)).toInt8.toInt32), (vi x2.toInt8.toInt32), (vi (x2 >>> ((8 : Int32) &&& 31)).toInt8.toInt32), (vi x3.toInt8.toInt32), (vi (x3 >>> ((8 : Int32) &&& 31)).toInt8.toInt32)]) :: (p1, true, oString (vr a4) (vi 1)) :: F) 1 0 d2_54 (wq hw 20 rfl) Via.refl rfl rfl (Or.inr ⟨(wq hw 16 rfl), rfl, rfl⟩) (wq hw 2 rfl) pf_B rfl rfl rfl ?_
   exact W.return_ d2_57 rfl (by decide) (Or.inr (Or.inr (Or.inr ⟨a4, h9, rfl, rfl⟩)))
theorem pd__CIILjava_lang_Void__V : parseMethodDescriptor "([CIILjava/lang/Void;)V" = some ⟨[(.array .char), .int, .int, (.object "java/lang/Void")], none⟩ := by decide +kernel
theorem d1_9 : decode jdk_42_method_3_code 9 = .ok (.return_, 1) := by decide +kernel
abbrev y10 : MethodName := ⟨"java/lang/String", "<init>", "([C)V"⟩
abbrev y10b : ByteArray := jdk_42_method_3_code
abbrev y10r : Option Jvm.ClassFile.FieldType := (Option.none : Option Jvm.ClassFile.FieldType)
theorem c1_init {Z a0} (hw : HW a0 Z) (hs : SF Z) {p1 p2 : Addr} {x1 : Int32} (hx1 : 0 ≤ x1.toInt ∧ x1.toInt ≤ 65535) {x2 : Int32} (hx2 : 0 ≤ x2.toInt ∧ x2.toInt ≤ 65535) {x3 : Int32} (hx3 : 0 ≤ x3.toInt ∧ x3.toInt ≤ 65535) {w_p2 : Bool} {ad_p2 : String} {F : List Ent} (mp2 : (p2, w_p2, ar ad_p2 .char [(vi x1), (vi x2), (vi x3)]) ∈ F) : Con Z EL y10 y10b 2 y10r (rmm 5 2 9 74) [(vr p1), (vr p2)] ((p1, true, oString .null (vi 0)) :: F) (fun v D' => (∃ a1 : Addr, Cd .le x1 (255 : Int32) ∧ Cd .le x2 (255 : Int32) ∧ Cd .le x3 (255 : Int32) ∧ v = none ∧ (a1, true, ar "[B" .byte [(vi x1.toInt8.toInt32), (vi x2.toInt8.toInt32), (vi x3.toInt8.toInt32)]) :: (p1, true, oString (vr a1) (vi 0)) :: F = D') ∨ (∃ a2 : Addr, Cd .le x1 (255 : Int32) ∧ Cd .le x2 (255 : Int32) ∧ ¬ Cd .le x3 (255 : Int32) ∧ v = none ∧ (a2, true, ar "[B" .byte [(vi x1.toInt8.toInt32), (vi (x1 >>> ((8 : Int32) &&& 31)).toInt8.toInt32), (vi x2.toInt8.toInt32), (vi (x2 >>> ((8 : Int32) &&& 31)).toInt8.toInt32), (vi x3.toInt8.toInt32), (vi (x3 >>> ((8 : Int32) &&& 31)).toInt8.toInt32)]) :: (p1, true, oString (vr a2) (vi 1)) :: F = D') ∨ (∃ a3 : Addr, Cd .le x1 (255 : Int32) ∧ ¬ Cd .le x2 (255 : Int32) ∧ v = none ∧ (a3, true, ar "[B" .byte [(vi x1.toInt8.toInt32), (vi (x1 >>> ((8 : Int32) &&& 31)).toInt8.toInt32), (vi x2.toInt8.toInt32), (vi (x2 >>> ((8 : Int32) &&& 31)).toInt8.toInt32), (vi x3.toInt8.toInt32), (vi (x3 >>> ((8 : Int32) &&& 31)).toInt8.toInt32)]) :: (p1, true, oString (vr a3) (vi 1)) :: F = D') ∨ (∃ a4 : Addr, ¬ Cd .le x1 (255 : Int32) ∧ v = none ∧ (a4, true, ar "[B" .byte [(vi x1.toInt8.toInt32), (vi (x1 >>> ((8 : Int32) &&& 31)).toInt8.toInt32), (vi x2.toInt8.toInt32), (vi (x2 >>> ((8 : Int32) &&& 31)).toInt8.toInt32), (vi x3.toInt8.toInt32), (vi (x3 >>> ((8 : Int32) &&& 31)).toInt8.toInt32)]) :: (p1, true, oString (vr a4) (vi 1)) :: F = D')) := by
  refine Con.of (ls := #[rv p1, rv p2]) (by decide +kernel) rfl ?_
  refine W.aloadN d1_0 rfl rfl ?_
  refine W.aloadN d1_1 rfl rfl ?_
  refine W.iconst (0) d1_2 (by decide) ?_
  refine W.aloadN d1_3 rfl rfl ?_
  refine W.alen (3) d1_4 (mS mp2) rfl ?_
  refine W.aconstNull d1_5 ?_
  refine W.callI (as := [(vr p2), (vi 0), (vi 3), .null]) 0 [] d1_6 rfl (wq hw 7 rfl) (wq hw 8 rfl) (wq hw 3 rfl) (wq hw 10 rfl) (c2_init hw hs (hx1 := hx1) (hx2 := hx2) (hx3 := hx3) (mp2 := mp2)) (by decide) pd__CIILjava_lang_Void__V rfl rfl rfl rfl (by decide) (fun v D' h => ?_)
  rcases h with ⟨a1, h1, h2, h3, rfl, rfl⟩ | ⟨a2, h4, h5, h6, rfl, rfl⟩ | ⟨a3, h7, h8, rfl, rfl⟩ | ⟨a4, h9, rfl, rfl⟩
  ·
   have ih1 := t_le h1
   have ih2 := t_le h2
   have ih3 := t_le h3
   show W _ _ _ _ _ _ _ _ _ _ _ _ 9 _ []
   exact W.return_ d1_9 rfl (by decide) (Or.inl ⟨a1, h1, h2, h3, rfl, rfl⟩)
  ·
   have ih4 := t_le h4
   have ih5 := t_le h5
   have ih6 := f_le h6
   show W _ _ _ _ _ _ _ _ _ _ _ _ 9 _ []
   exact W.return_ d1_9 rfl (by decide) (Or.inr (Or.inl ⟨a2, h4, h5, h6, rfl, rfl⟩))
  ·
   have ih7 := t_le h7
   have ih8 := f_le h8
   show W _ _ _ _ _ _ _ _ _ _ _ _ 9 _ []
   exact W.return_ d1_9 rfl (by decide) (Or.inr (Or.inr (Or.inl ⟨a3, h7, h8, rfl, rfl⟩)))
  ·
   have ih9 := f_le h9
   show W _ _ _ _ _ _ _ _ _ _ _ _ 9 _ []
   exact W.return_ d1_9 rfl (by decide) (Or.inr (Or.inr (Or.inr ⟨a4, h9, rfl, rfl⟩)))
theorem pd__C_V : parseMethodDescriptor "([C)V" = some ⟨[(.array .char)], none⟩ := by decide +kernel
theorem laJdqlLexer_Token {Z a0} (hw : HW a0 Z) : LaidAll Z a0 "com/example/rochester/rochester/JdqlLexer$Token" [("com/example/rochester/rochester/JdqlLexer$Token", "kind", "Lcom/example/rochester/rochester/JdqlLexer$Kind;", .null), ("com/example/rochester/rochester/JdqlLexer$Token", "text", "Ljava/lang/String;", .null), ("com/example/rochester/rochester/JdqlLexer$Token", "start", "I", (vi 0)), ("com/example/rochester/rochester/JdqlLexer$Token", "end", "I", (vi 0))] := ⟨⟨Or.inr (wq hw 38 rfl), (.object "com/example/rochester/rochester/JdqlLexer$Kind"), by decide, rfl⟩, ⟨⟨Or.inr (wq hw 40 rfl), (.object "java/lang/String"), by decide, rfl⟩, ⟨⟨Or.inr (wq hw 42 rfl), .int, by decide, rfl⟩, ⟨⟨Or.inr (wq hw 44 rfl), .int, by decide, rfl⟩, trivial⟩⟩⟩⟩
theorem d4_0 : decode prog_12_method_1_code 0 = .ok (.aload_n 0, 1) := by decide +kernel
theorem d4_1 : decode prog_12_method_1_code 1 = .ok (.invokespecial 1, 3) := by decide +kernel
theorem d5_0 : decode jdk_30_method_1_code 0 = .ok (.aload_n 0, 1) := by decide +kernel
theorem d5_1 : decode jdk_30_method_1_code 1 = .ok (.invokespecial 1, 3) := by decide +kernel
theorem d5_4 : decode jdk_30_method_1_code 4 = .ok (.return_, 1) := by decide +kernel
abbrev oJdqlLexer_Token (f0 f1 f2 f3 : Value) : Desc := .inl ("com/example/rochester/rochester/JdqlLexer$Token", [("com/example/rochester/rochester/JdqlLexer$Token", "kind", "Lcom/example/rochester/rochester/JdqlLexer$Kind;", f0), ("com/example/rochester/rochester/JdqlLexer$Token", "text", "Ljava/lang/String;", f1), ("com/example/rochester/rochester/JdqlLexer$Token", "start", "I", f2), ("com/example/rochester/rochester/JdqlLexer$Token", "end", "I", f3)])
abbrev y11 : MethodName := ⟨"java/lang/Record", "<init>", "()V"⟩
abbrev y11b : ByteArray := jdk_30_method_1_code
abbrev y11r : Option Jvm.ClassFile.FieldType := (Option.none : Option Jvm.ClassFile.FieldType)
theorem c17_init {Z a0} (hw : HW a0 Z) (hs : SF Z) {p1 : Addr} {F : List Ent} : Con Z EL y11 y11b 1 y11r (rmm 1 0 0 12) [(vr p1)] (F) (fun v D' => (v = none ∧ F = D')) := by
  refine Con.of (ls := #[rv p1]) (by decide +kernel) rfl ?_
  refine W.aloadN d5_0 rfl rfl ?_
  refine W.initO 0 d5_1 (wq hw 36 rfl) (wq hw 12 rfl) (wq hw 13 rfl) rfl rfl (by decide) ?_
  exact W.return_ d5_4 rfl (by decide) ⟨rfl, rfl⟩
theorem pd__V : parseMethodDescriptor "()V" = some ⟨[], none⟩ := by decide +kernel
theorem d4_4 : decode prog_12_method_1_code 4 = .ok (.aload_n 0, 1) := by decide +kernel
theorem d4_5 : decode prog_12_method_1_code 5 = .ok (.aload_n 1, 1) := by decide +kernel
theorem d4_6 : decode prog_12_method_1_code 6 = .ok (.putfield 7, 3) := by decide +kernel
theorem pfLcom_example_rochester_rochester_JdqlLexer_Kind_ : parseFieldDescriptor "Lcom/example/rochester/rochester/JdqlLexer$Kind;" = some (.object "com/example/rochester/rochester/JdqlLexer$Kind") := by decide
theorem d4_9 : decode prog_12_method_1_code 9 = .ok (.aload_n 0, 1) := by decide +kernel
theorem d4_10 : decode prog_12_method_1_code 10 = .ok (.aload_n 2, 1) := by decide +kernel
theorem d4_11 : decode prog_12_method_1_code 11 = .ok (.putfield 13, 3) := by decide +kernel
theorem pfLjava_lang_String_ : parseFieldDescriptor "Ljava/lang/String;" = some (.object "java/lang/String") := by decide
theorem d4_14 : decode prog_12_method_1_code 14 = .ok (.aload_n 0, 1) := by decide +kernel
theorem d4_15 : decode prog_12_method_1_code 15 = .ok (.iload_n 3, 1) := by decide +kernel
theorem d4_16 : decode prog_12_method_1_code 16 = .ok (.putfield 17, 3) := by decide +kernel
theorem pfI : parseFieldDescriptor "I" = some .int := by decide
theorem d4_19 : decode prog_12_method_1_code 19 = .ok (.aload_n 0, 1) := by decide +kernel
theorem d4_20 : decode prog_12_method_1_code 20 = .ok (.iload 4, 2) := by decide +kernel
theorem d4_22 : decode prog_12_method_1_code 22 = .ok (.putfield 21, 3) := by decide +kernel
theorem d4_25 : decode prog_12_method_1_code 25 = .ok (.return_, 1) := by decide +kernel
abbrev y12 : MethodName := ⟨"com/example/rochester/rochester/JdqlLexer$Token", "<init>", "(Lcom/example/rochester/rochester/JdqlLexer$Kind;Ljava/lang/String;II)V"⟩
abbrev y12b : ByteArray := prog_12_method_1_code
abbrev y12r : Option Jvm.ClassFile.FieldType := (Option.none : Option Jvm.ClassFile.FieldType)
theorem c16_init {Z a0} (hw : HW a0 Z) (hs : SF Z) {p1 p2 : Addr} {x1 : Int32} (hx1 : 0 ≤ x1.toInt ∧ x1.toInt ≤ 127) {F : List Ent} : Con Z EL y12 y12b 5 y12r (rmm 2 0 0 24) [(vr p1), (vr (kWORD Z)), (vr p2), (vi 0), (vi x1)] ((p1, true, oJdqlLexer_Token .null .null (vi 0) (vi 0)) :: F) (fun v D' => (v = none ∧ (p1, true, oJdqlLexer_Token (vr (kWORD Z)) (vr p2) (vi 0) (vi x1)) :: F = D')) := by
  refine Con.of (ls := #[rv p1, rv (kWORD Z), rv p2, iv 0, iv x1]) (by decide +kernel) rfl ?_
  refine W.aloadN d4_0 rfl rfl ?_
  refine W.callI (as := []) 0 [] d4_1 rfl (wq hw 31 rfl) (wq hw 32 rfl) (wq hw 34 rfl) (wq hw 35 rfl) (c17_init hw hs) (by decide) pd__V rfl rfl rfl rfl (by decide) (fun v D' h => ?_)
  obtain ⟨rfl, rfl⟩ := h
  show W _ _ _ _ _ _ _ _ _ _ _ _ 4 _ []
  refine W.aloadN d4_4 rfl rfl ?_
  refine W.aloadN d4_5 rfl rfl ?_
  refine W.putf (D' := (p1, true, oJdqlLexer_Token (vr (kWORD Z)) .null (vi 0) (vi 0)) :: F) 0 0 d4_6 (wq hw 37 rfl) Via.refl rfl rfl (Or.inr ⟨(wq hw 38 rfl), rfl, rfl⟩) (wq hw 23 rfl) pfLcom_example_rochester_rochester_JdqlLexer_Kind_ rfl rfl rfl ?_
  refine W.aloadN d4_9 rfl rfl ?_
  refine W.aloadN d4_10 rfl rfl ?_
  refine W.putf (D' := (p1, true, oJdqlLexer_Token (vr (kWORD Z)) (vr p2) (vi 0) (vi 0)) :: F) 0 1 d4_11 (wq hw 39 rfl) Via.refl rfl rfl (Or.inr ⟨(wq hw 40 rfl), rfl, rfl⟩) (wq hw 23 rfl) pfLjava_lang_String_ rfl rfl rfl ?_
  refine W.aloadN d4_14 rfl rfl ?_
  refine W.iloadN d4_15 rfl ?_
  refine W.putf (D' := (p1, true, oJdqlLexer_Token (vr (kWORD Z)) (vr p2) (vi 0) (vi 0)) :: F) 0 2 d4_16 (wq hw 41 rfl) Via.refl rfl rfl (Or.inr ⟨(wq hw 42 rfl), rfl, rfl⟩) (wq hw 23 rfl) pfI rfl rfl rfl ?_
  refine W.aloadN d4_19 rfl rfl ?_
  refine W.iload d4_20 rfl ?_
  refine W.putf (D' := (p1, true, oJdqlLexer_Token (vr (kWORD Z)) (vr p2) (vi 0) (vi x1)) :: F) 0 3 d4_22 (wq hw 43 rfl) Via.refl rfl rfl (Or.inr ⟨(wq hw 44 rfl), rfl, rfl⟩) (wq hw 23 rfl) pfI rfl rfl rfl ?_
  exact W.return_ d4_25 rfl (by decide) ⟨rfl, rfl⟩
theorem q3 : (3 : Int32).toInt = 3 := by decide
theorem am_3 (x : Int32) : (x &&& (3 : Int32)).toInt = x.toInt % 4 := a_and x 3 2 4 (by decide) (by decide) (by decide)
theorem q1 : (1 : Int32).toInt = 1 := by decide
theorem q2 : (2 : Int32).toInt = 2 := by decide
theorem pd_Lcom_example_rochester_rochester_JdqlLexer_Kind_Ljava_lang_String_II_V : parseMethodDescriptor "(Lcom/example/rochester/rochester/JdqlLexer$Kind;Ljava/lang/String;II)V" = some ⟨[(.object "com/example/rochester/rochester/JdqlLexer$Kind"), (.object "java/lang/String"), .int, .int], none⟩ := by decide +kernel
theorem d6_0 : decode prog_12_method_5_code 0 = .ok (.new 48, 3) := by decide +kernel
theorem laStringBuilder {Z a0} (hw : HW a0 Z) : LaidAll Z a0 "java/lang/StringBuilder" [("java/lang/AbstractStringBuilder", "value", "[B", .null), ("java/lang/AbstractStringBuilder", "coder", "B", (vi 0)), ("java/lang/AbstractStringBuilder", "count", "I", (vi 0)), ("java/lang/AbstractStringBuilder", "maybeLatin1", "Z", (vi 0))] := ⟨⟨Or.inl (wq hw 76 rfl), (.array .byte), by decide, rfl⟩, ⟨⟨Or.inl (wq hw 78 rfl), .byte, by decide, rfl⟩, ⟨⟨Or.inl (wq hw 123 rfl), .int, by decide, rfl⟩, ⟨⟨Or.inl (wq hw 248 rfl), .boolean, by decide, rfl⟩, trivial⟩⟩⟩⟩
theorem d6_3 : decode prog_12_method_5_code 3 = .ok (.dup, 1) := by decide +kernel
theorem d6_4 : decode prog_12_method_5_code 4 = .ok (.aload_n 0, 1) := by decide +kernel
theorem d6_5 : decode prog_12_method_5_code 5 = .ok (.getfield 13, 3) := by decide +kernel
theorem d6_8 : decode prog_12_method_5_code 8 = .ok (.invokevirtual 50, 3) := by decide +kernel
theorem d7_0 : decode jdk_42_method_54_code 0 = .ok (.aload_n 0, 1) := by decide +kernel
theorem d7_1 : decode jdk_42_method_54_code 1 = .ok (.getfield 9, 3) := by decide +kernel
theorem d7_4 : decode jdk_42_method_54_code 4 = .ok (.arraylength, 1) := by decide +kernel
theorem d7_5 : decode jdk_42_method_54_code 5 = .ok (.aload_n 0, 1) := by decide +kernel
theorem d7_6 : decode jdk_42_method_54_code 6 = .ok (.invokevirtual 335, 3) := by decide +kernel
theorem d8_0 : decode jdk_42_method_152_code 0 = .ok (.getstatic 38, 3) := by decide +kernel
theorem d8_3 : decode jdk_42_method_152_code 3 = .ok (.ifCond .eq 10, 3) := by decide +kernel
theorem d8_6 : decode jdk_42_method_152_code 6 = .ok (.aload_n 0, 1) := by decide +kernel
theorem d8_7 : decode jdk_42_method_152_code 7 = .ok (.getfield 15, 3) := by decide +kernel
theorem d8_10 : decode jdk_42_method_152_code 10 = .ok (.goto 4, 3) := by decide +kernel
theorem d8_14 : decode jdk_42_method_152_code 14 = .ok (.ireturn, 1) := by decide +kernel
abbrev y13 : MethodName := ⟨"java/lang/String", "coder", "()B"⟩
abbrev y13b : ByteArray := jdk_42_method_152_code
abbrev y13r : Option Jvm.ClassFile.FieldType := (Option.some Jvm.ClassFile.FieldType.byte)
theorem c20_coder {Z a0} (hw : HW a0 Z) (hs : SF Z) {p1 : Addr} {f_p1_0 : Value} {w_p1 : Bool} {F : List Ent} (mp1 : (p1, w_p1, oString f_p1_0 (vi 0)) ∈ F) : Con Z EL y13 y13b 1 y13r (rmm 0 0 0 0) [(vr p1)] (F) (fun v D' => (v = some (vi 0) ∧ F = D')) := by
  refine Con.of (ls := #[rv p1]) (by decide +kernel) rfl ?_
  refine W.gets d8_0 (wq hw 63 rfl) Via.refl hs.1 ?_
  refine W.ifN d8_3 (n_eq (by have := hs.2.1; have := q0; omega)) ?_
  refine W.aloadN d8_6 rfl rfl ?_
  refine W.getf d8_7 (wq hw 21 rfl) Via.refl mp1 m1 ?_
  refine W.goto 14 d8_10 (by decide) ?_
  exact W.ireturn d8_14 rfl (Or.inr (Or.inr (Or.inl rfl))) (nw_byte (by decide)) (by decide) ⟨rfl, rfl⟩
theorem pd__B : parseMethodDescriptor "()B" = some ⟨[], some .byte⟩ := by decide +kernel
theorem d7_9 : decode jdk_42_method_54_code 9 = .ok (.ishr, 1) := by decide +kernel
theorem d7_10 : decode jdk_42_method_54_code 10 = .ok (.ireturn, 1) := by decide +kernel
abbrev y14 : MethodName := ⟨"java/lang/String", "length", "()I"⟩
abbrev y14b : ByteArray := jdk_42_method_54_code
abbrev y14r : Option Jvm.ClassFile.FieldType := (Option.some Jvm.ClassFile.FieldType.int)
theorem c19_length {Z a0} (hw : HW a0 Z) (hs : SF Z) {p1 p2 : Addr} {vs_p2 : List Value} (hvs_p2 : vs_p2.length = 3) {w_p1 : Bool} {w_p2 : Bool} {ad_p2 : String} {F : List Ent} (mp1 : (p1, w_p1, oString (vr p2) (vi 0)) ∈ F) (mp2 : (p2, w_p2, ar ad_p2 .byte vs_p2) ∈ F) : Con Z EL y14 y14b 1 y14r (rmm 1 0 0 13) [(vr p1)] (F) (fun v D' => (v = some (vi 3) ∧ F = D')) := by
  refine Con.of (ls := #[rv p1]) (by decide +kernel) rfl ?_
  refine W.aloadN d7_0 rfl rfl ?_
  refine W.getf d7_1 (wq hw 20 rfl) Via.refl mp1 m0 ?_
  refine W.alen (3) d7_4 mp2 (by rw [hvs_p2]; rfl) ?_
  refine W.aloadN d7_5 rfl rfl ?_
  refine W.callV (as := []) 1 [(vi 3)] d7_6 (wq hw 58 rfl) (wq hw 59 rfl) (wq hw 61 rfl) (wq hw 61 rfl) (wq hw 60 rfl) (wq hw 3 rfl) (wq hw 62 rfl) (Hp.exa mp1) (c20_coder hw hs (mp1 := mp1)) (by decide) pd__B rfl rfl rfl rfl (by decide) (fun v D' h => ?_)
  obtain ⟨rfl, rfl⟩ := h
  show W _ _ _ _ _ _ _ _ _ _ _ _ 9 _ [(vi 0), (vi 3)]
  refine W.ishrK (3 : Int32) d7_9 (by decide) ?_
  exact W.ireturn d7_10 rfl (Or.inl rfl) rfl (by decide) ⟨rfl, rfl⟩
theorem pd__I : parseMethodDescriptor "()I" = some ⟨[], some .int⟩ := by decide +kernel
theorem d6_11 : decode prog_12_method_5_code 11 = .ok (.invokespecial 54, 3) := by decide +kernel
theorem d9_0 : decode jdk_67_method_2_code 0 = .ok (.aload_n 0, 1) := by decide +kernel
theorem d9_1 : decode jdk_67_method_2_code 1 = .ok (.iload_n 1, 1) := by decide +kernel
theorem d9_2 : decode jdk_67_method_2_code 2 = .ok (.invokespecial 1, 3) := by decide +kernel
theorem d10_0 : decode jdk_68_method_2_code 0 = .ok (.aload_n 0, 1) := by decide +kernel
theorem d10_1 : decode jdk_68_method_2_code 1 = .ok (.invokespecial 3, 3) := by decide +kernel
theorem d10_4 : decode jdk_68_method_2_code 4 = .ok (.getstatic 18, 3) := by decide +kernel
theorem d10_7 : decode jdk_68_method_2_code 7 = .ok (.ifCond .eq 18, 3) := by decide +kernel
theorem d10_10 : decode jdk_68_method_2_code 10 = .ok (.aload_n 0, 1) := by decide +kernel
theorem d10_11 : decode jdk_68_method_2_code 11 = .ok (.iload_n 1, 1) := by decide +kernel
theorem d10_12 : decode jdk_68_method_2_code 12 = .ok (.newarray .byte, 2) := by decide +kernel
theorem d10_14 : decode jdk_68_method_2_code 14 = .ok (.putfield 15, 3) := by decide +kernel
abbrev oStringBuilder (f0 f1 f2 f3 : Value) : Desc := .inl ("java/lang/StringBuilder", [("java/lang/AbstractStringBuilder", "value", "[B", f0), ("java/lang/AbstractStringBuilder", "coder", "B", f1), ("java/lang/AbstractStringBuilder", "count", "I", f2), ("java/lang/AbstractStringBuilder", "maybeLatin1", "Z", f3)])
theorem d10_17 : decode jdk_68_method_2_code 17 = .ok (.aload_n 0, 1) := by decide +kernel
theorem d10_18 : decode jdk_68_method_2_code 18 = .ok (.iconst 0, 1) := by decide +kernel
theorem d10_19 : decode jdk_68_method_2_code 19 = .ok (.putfield 22, 3) := by decide +kernel
theorem d10_22 : decode jdk_68_method_2_code 22 = .ok (.goto 16, 3) := by decide +kernel
theorem d10_38 : decode jdk_68_method_2_code 38 = .ok (.return_, 1) := by decide +kernel
abbrev y15 : MethodName := ⟨"java/lang/AbstractStringBuilder", "<init>", "(I)V"⟩
abbrev y15b : ByteArray := jdk_68_method_2_code
abbrev y15r : Option Jvm.ClassFile.FieldType := (Option.none : Option Jvm.ClassFile.FieldType)
theorem c22_init {Z a0} (hw : HW a0 Z) (hs : SF Z) {p1 : Addr} {f_p1_2 f_p1_3 : Value} {F : List Ent} : Con Z EL y15 y15b 2 y15r (rmm 1 1 3 12) [(vr p1), (vi 3)] ((p1, true, oStringBuilder .null (vi 0) f_p1_2 f_p1_3) :: F) (fun v D' => (∃ a1 : Addr, v = none ∧ (a1, true, ar "[B" .byte [(vi 0), (vi 0), (vi 0)]) :: (p1, true, oStringBuilder (vr a1) (vi 0) f_p1_2 f_p1_3) :: F = D')) := by
  refine Con.of (ls := #[rv p1, iv 3]) (by decide +kernel) rfl ?_
  refine W.aloadN d10_0 rfl rfl ?_
  refine W.initO 0 d10_1 (wq hw 73 rfl) (wq hw 12 rfl) (wq hw 13 rfl) rfl rfl (by decide) ?_
  refine W.gets d10_4 (wq hw 74 rfl) Via.refl hs.1 ?_
  refine W.ifN d10_7 (n_eq (by have := hs.2.1; have := q0; omega)) ?_
  refine W.aloadN d10_10 rfl rfl ?_
  refine W.iloadN d10_11 rfl ?_
  refine W.newarr 3 (ad := "[B") (ty := .byte) d10_12 rfl (wq hw 15 rfl) ix3 rfl (by decide) (by decide) (fun a1 => ?_)
  show W _ _ _ _ _ _ _ _ _ _ _ _ 14 _ [(vr a1), (vr p1)]
  refine W.putf (D' := (a1, true, ar "[B" .byte [(vi 0), (vi 0), (vi 0)]) :: (p1, true, oStringBuilder (vr a1) (vi 0) f_p1_2 f_p1_3) :: F) 1 0 d10_14 (wq hw 75 rfl) Via.refl rfl rfl (Or.inl (wq hw 76 rfl)) (wq hw 51 rfl) pf_B rfl rfl rfl ?_
  refine W.aloadN d10_17 rfl rfl ?_
  refine W.iconst (0) d10_18 (by decide) ?_
  refine W.putf (D' := (a1, true, ar "[B" .byte [(vi 0), (vi 0), (vi 0)]) :: (p1, true, oStringBuilder (vr a1) (vi 0) f_p1_2 f_p1_3) :: F) 1 1 d10_19 (wq hw 77 rfl) Via.refl rfl rfl (Or.inl (wq hw 78 rfl)) (wq hw 51 rfl) pfB (nw_byte (by decide)) (ft_byte (by decide)) rfl ?_
  refine W.goto 38 d10_22 (by decide) ?_
  exact W.return_ d10_38 rfl (by decide) ⟨a1, rfl, rfl⟩
theorem pd_I_V : parseMethodDescriptor "(I)V" = some ⟨[.int], none⟩ := by decide +kernel
theorem d9_5 : decode jdk_67_method_2_code 5 = .ok (.return_, 1) := by decide +kernel
abbrev y16 : MethodName := ⟨"java/lang/StringBuilder", "<init>", "(I)V"⟩
abbrev y16b : ByteArray := jdk_67_method_2_code
abbrev y16r : Option Jvm.ClassFile.FieldType := (Option.none : Option Jvm.ClassFile.FieldType)
theorem c21_init {Z a0} (hw : HW a0 Z) (hs : SF Z) {p1 : Addr} {f_p1_2 f_p1_3 : Value} {F : List Ent} : Con Z EL y16 y16b 2 y16r (rmm 2 1 3 25) [(vr p1), (vi 3)] ((p1, true, oStringBuilder .null (vi 0) f_p1_2 f_p1_3) :: F) (fun v D' => (∃ a1 : Addr, v = none ∧ (a1, true, ar "[B" .byte [(vi 0), (vi 0), (vi 0)]) :: (p1, true, oStringBuilder (vr a1) (vi 0) f_p1_2 f_p1_3) :: F = D')) := by
  refine Con.of (ls := #[rv p1, iv 3]) (by decide +kernel) rfl ?_
  refine W.aloadN d9_0 rfl rfl ?_
  refine W.iloadN d9_1 rfl ?_
  refine W.callI (as := [(vi 3)]) 0 [] d9_2 rfl (wq hw 67 rfl) (wq hw 68 rfl) (wq hw 71 rfl) (wq hw 72 rfl) (c22_init hw hs) (by decide) pd_I_V rfl rfl rfl rfl (by decide) (fun v D' h => ?_)
  obtain ⟨a1, rfl, rfl⟩ := h
  show W _ _ _ _ _ _ _ _ _ _ _ _ 5 _ []
  exact W.return_ d9_5 rfl (by decide) ⟨a1, rfl, rfl⟩
theorem d6_14 : decode prog_12_method_5_code 14 = .ok (.astore_n 1, 1) := by decide +kernel
theorem d6_15 : decode prog_12_method_5_code 15 = .ok (.aload_n 0, 1) := by decide +kernel
theorem d6_16 : decode prog_12_method_5_code 16 = .ok (.getfield 13, 3) := by decide +kernel
theorem d6_19 : decode prog_12_method_5_code 19 = .ok (.invokevirtual 57, 3) := by decide +kernel
theorem d11_0 : decode jdk_42_method_129_code 0 = .ok (.aload_n 0, 1) := by decide +kernel
theorem d11_1 : decode jdk_42_method_129_code 1 = .ok (.invokevirtual 492, 3) := by decide +kernel
theorem d12_0 : decode jdk_42_method_154_code 0 = .ok (.getstatic 38, 3) := by decide +kernel
theorem d12_3 : decode jdk_42_method_154_code 3 = .ok (.ifCond .eq 14, 3) := by decide +kernel
theorem d12_6 : decode jdk_42_method_154_code 6 = .ok (.aload_n 0, 1) := by decide +kernel
theorem d12_7 : decode jdk_42_method_154_code 7 = .ok (.getfield 15, 3) := by decide +kernel
theorem d12_10 : decode jdk_42_method_154_code 10 = .ok (.ifCond .ne 7, 3) := by decide +kernel
theorem d12_13 : decode jdk_42_method_154_code 13 = .ok (.iconst 1, 1) := by decide +kernel
theorem d12_14 : decode jdk_42_method_154_code 14 = .ok (.goto 4, 3) := by decide +kernel
theorem d12_18 : decode jdk_42_method_154_code 18 = .ok (.ireturn, 1) := by decide +kernel
abbrev y17 : MethodName := ⟨"java/lang/String", "isLatin1", "()Z"⟩
abbrev y17b : ByteArray := jdk_42_method_154_code
abbrev y17r : Option Jvm.ClassFile.FieldType := (Option.some Jvm.ClassFile.FieldType.boolean)
theorem c24_isLatin1 {Z a0} (hw : HW a0 Z) (hs : SF Z) {p1 : Addr} {f_p1_0 : Value} {w_p1 : Bool} {F : List Ent} (mp1 : (p1, w_p1, oString f_p1_0 (vi 0)) ∈ F) : Con Z EL y17 y17b 1 y17r (rmm 0 0 0 0) [(vr p1)] (F) (fun v D' => (v = some (vi 1) ∧ F = D')) := by
  refine Con.of (ls := #[rv p1]) (by decide +kernel) rfl ?_
  refine W.gets d12_0 (wq hw 63 rfl) Via.refl hs.1 ?_
  refine W.ifN d12_3 (n_eq (by have := hs.2.1; have := q0; omega)) ?_
  refine W.aloadN d12_6 rfl rfl ?_
  refine W.getf d12_7 (wq hw 21 rfl) Via.refl mp1 m1 ?_
  refine W.ifN d12_10 (n_ne (by decide)) ?_
  refine W.iconst (1) d12_13 (by decide) ?_
  refine W.goto 18 d12_14 (by decide) ?_
  exact W.ireturn d12_18 rfl (Or.inr (Or.inl rfl)) (nw_bool (by decide)) (by decide) ⟨rfl, rfl⟩
theorem pd__Z : parseMethodDescriptor "()Z" = some ⟨[], some .boolean⟩ := by decide +kernel
theorem d11_4 : decode jdk_42_method_129_code 4 = .ok (.ifCond .eq 13, 3) := by decide +kernel
theorem d11_7 : decode jdk_42_method_129_code 7 = .ok (.aload_n 0, 1) := by decide +kernel
theorem d11_8 : decode jdk_42_method_129_code 8 = .ok (.getfield 9, 3) := by decide +kernel
theorem d11_11 : decode jdk_42_method_129_code 11 = .ok (.invokestatic 299, 3) := by decide +kernel
theorem d13_0 : decode jdk_43_method_9_code 0 = .ok (.aload_n 0, 1) := by decide +kernel
theorem d13_1 : decode jdk_43_method_9_code 1 = .ok (.arraylength, 1) := by decide +kernel
theorem d13_2 : decode jdk_43_method_9_code 2 = .ok (.newarray .char, 2) := by decide +kernel
theorem d13_4 : decode jdk_43_method_9_code 4 = .ok (.astore_n 1, 1) := by decide +kernel
theorem d13_5 : decode jdk_43_method_9_code 5 = .ok (.aload_n 0, 1) := by decide +kernel
theorem d13_6 : decode jdk_43_method_9_code 6 = .ok (.iconst 0, 1) := by decide +kernel
theorem d13_7 : decode jdk_43_method_9_code 7 = .ok (.aload_n 1, 1) := by decide +kernel
theorem d13_8 : decode jdk_43_method_9_code 8 = .ok (.iconst 0, 1) := by decide +kernel
theorem d13_9 : decode jdk_43_method_9_code 9 = .ok (.aload_n 0, 1) := by decide +kernel
theorem d13_10 : decode jdk_43_method_9_code 10 = .ok (.arraylength, 1) := by decide +kernel
theorem d13_11 : decode jdk_43_method_9_code 11 = .ok (.invokestatic 13, 3) := by decide +kernel
theorem d14_0 : decode jdk_43_method_49_code 0 = .ok (.iconst 0, 1) := by decide +kernel
theorem d14_1 : decode jdk_43_method_49_code 1 = .ok (.istore 5, 2) := by decide +kernel
theorem d14_3 : decode jdk_43_method_49_code 3 = .ok (.iload 5, 2) := by decide +kernel
theorem d14_5 : decode jdk_43_method_49_code 5 = .ok (.iload 4, 2) := by decide +kernel
theorem d14_7 : decode jdk_43_method_49_code 7 = .ok (.if_icmp .ge 26, 3) := by decide +kernel
theorem d14_10 : decode jdk_43_method_49_code 10 = .ok (.aload_n 2, 1) := by decide +kernel
theorem d14_11 : decode jdk_43_method_49_code 11 = .ok (.iload_n 3, 1) := by decide +kernel
theorem d14_12 : decode jdk_43_method_49_code 12 = .ok (.iinc 3 1, 3) := by decide +kernel
theorem d14_15 : decode jdk_43_method_49_code 15 = .ok (.aload_n 0, 1) := by decide +kernel
theorem d14_16 : decode jdk_43_method_49_code 16 = .ok (.iload_n 1, 1) := by decide +kernel
theorem d14_17 : decode jdk_43_method_49_code 17 = .ok (.iinc 1 1, 3) := by decide +kernel
theorem d14_20 : decode jdk_43_method_49_code 20 = .ok (.baload, 1) := by decide +kernel
theorem d14_21 : decode jdk_43_method_49_code 21 = .ok (.sipush 255, 3) := by decide +kernel
theorem d14_24 : decode jdk_43_method_49_code 24 = .ok (.iand, 1) := by decide +kernel
theorem d14_25 : decode jdk_43_method_49_code 25 = .ok (.i2c, 1) := by decide +kernel
theorem d14_26 : decode jdk_43_method_49_code 26 = .ok (.castore, 1) := by decide +kernel
theorem d14_27 : decode jdk_43_method_49_code 27 = .ok (.iinc 5 1, 3) := by decide +kernel
theorem d14_30 : decode jdk_43_method_49_code 30 = .ok (.goto (-27), 3) := by decide +kernel
theorem d14_33 : decode jdk_43_method_49_code 33 = .ok (.return_, 1) := by decide +kernel
abbrev y18 : MethodName := ⟨"java/lang/StringLatin1", "inflate", "([BI[CII)V"⟩
abbrev y18b : ByteArray := jdk_43_method_49_code
abbrev y18r : Option Jvm.ClassFile.FieldType := (Option.none : Option Jvm.ClassFile.FieldType)
theorem c26_inflate {Z a0} (hw : HW a0 Z) (hs : SF Z) {p1 p2 : Addr} {x1 : Int32} (hx1 : 0 ≤ x1.toInt ∧ x1.toInt ≤ 255) {x2 : Int32} (hx2 : 0 ≤ x2.toInt ∧ x2.toInt ≤ 255) {x3 : Int32} (hx3 : 0 ≤ x3.toInt ∧ x3.toInt ≤ 255) {ad_p2 : String} {w_p1 : Bool} {ad_p1 : String} {F : List Ent} (mp1 : (p1, w_p1, ar ad_p1 .byte [(vi x1.toInt8.toInt32), (vi x2.toInt8.toInt32), (vi x3.toInt8.toInt32)]) ∈ F) : Con Z EL y18 y18b 6 y18r (rmm 0 0 0 0) [(vr p1), (vi 0), (vr p2), (vi 0), (vi 3)] ((p2, true, ar ad_p2 .char [(vi 0), (vi 0), (vi 0)]) :: F) (fun v D' => (v = none ∧ (p2, true, ar ad_p2 .char [(vi x1), (vi x2), (vi x3)]) :: F = D')) := by
  refine Con.of (ls := #[rv p1, iv 0, rv p2, iv 0, iv 3, uu]) (by decide +kernel) rfl ?_
  refine W.iconst (0) d14_0 (by decide) ?_
  refine W.istore (ls' := #[rv p1, iv 0, rv p2, iv 0, iv 3, iv 0]) d14_1 rfl ?_
  refine W.iload d14_3 rfl ?_
  refine W.iload d14_5 rfl ?_
  refine W.icmpN d14_7 (n_ge (by decide)) ?_
  refine W.aloadN d14_10 rfl rfl ?_
  refine W.iloadN d14_11 rfl ?_
  refine W.iincK (ls' := #[rv p1, iv 0, rv p2, iv 1, iv 3, iv 0]) (1) (1 : Int32) d14_12 (by decide) rfl (by decide) rfl ?_
  refine W.aloadN d14_15 rfl rfl ?_
  refine W.iloadN d14_16 rfl ?_
  refine W.iincK (ls' := #[rv p1, iv 1, rv p2, iv 1, iv 3, iv 0]) (1) (1 : Int32) d14_17 (by decide) rfl (by decide) rfl ?_
  refine W.baload 0 d14_20 (mS mp1) ix0 rfl ?_
  refine W.sipush (255) d14_21 (by decide) ?_
  refine W.iandK x1 d14_24 (z_b255 hx1) ?_
  refine W.i2cK x1 d14_25 (z_i2c (by omega)) ?_
  refine W.castore (D' := (p2, true, ar ad_p2 .char [(vi x1), (vi 0), (vi 0)]) :: F) 0 0 d14_26 rfl ix0 (Nat.le_of_ble_eq_true rfl) (z_narC (by omega)) rfl ?_
  refine W.iincK (ls' := #[rv p1, iv 1, rv p2, iv 1, iv 3, iv 1]) (1) (1 : Int32) d14_27 (by decide) rfl (by decide) rfl ?_
  refine W.goto 3 d14_30 (by decide) ?_
  refine W.iload d14_3 rfl ?_
  refine W.iload d14_5 rfl ?_
  refine W.icmpN d14_7 (n_ge (by decide)) ?_
  refine W.aloadN d14_10 rfl rfl ?_
  refine W.iloadN d14_11 rfl ?_
  refine W.iincK (ls' := #[rv p1, iv 1, rv p2, iv 2, iv 3, iv 1]) (1) (2 : Int32) d14_12 (by decide) rfl (by decide) rfl ?_
  refine W.aloadN d14_15 rfl rfl ?_
  refine W.iloadN d14_16 rfl ?_
  refine W.iincK (ls' := #[rv p1, iv 2, rv p2, iv 2, iv 3, iv 1]) (1) (2 : Int32) d14_17 (by decide) rfl (by decide) rfl ?_
  refine W.baload 1 d14_20 (mS mp1) ix1 rfl ?_
  refine W.sipush (255) d14_21 (by decide) ?_
  refine W.iandK x2 d14_24 (z_b255 hx2) ?_
  refine W.i2cK x2 d14_25 (z_i2c (by omega)) ?_
  refine W.castore (D' := (p2, true, ar ad_p2 .char [(vi x1), (vi x2), (vi 0)]) :: F) 0 1 d14_26 rfl ix1 (Nat.le_of_ble_eq_true rfl) (z_narC (by omega)) rfl ?_
  refine W.iincK (ls' := #[rv p1, iv 2, rv p2, iv 2, iv 3, iv 2]) (1) (2 : Int32) d14_27 (by decide) rfl (by decide) rfl ?_
  refine W.goto 3 d14_30 (by decide) ?_
  refine W.iload d14_3 rfl ?_
  refine W.iload d14_5 rfl ?_
  refine W.icmpN d14_7 (n_ge (by decide)) ?_
  refine W.aloadN d14_10 rfl rfl ?_
  refine W.iloadN d14_11 rfl ?_
  refine W.iincK (ls' := #[rv p1, iv 2, rv p2, iv 3, iv 3, iv 2]) (1) (3 : Int32) d14_12 (by decide) rfl (by decide) rfl ?_
  refine W.aloadN d14_15 rfl rfl ?_
  refine W.iloadN d14_16 rfl ?_
  refine W.iincK (ls' := #[rv p1, iv 3, rv p2, iv 3, iv 3, iv 2]) (1) (3 : Int32) d14_17 (by decide) rfl (by decide) rfl ?_
  refine W.baload 2 d14_20 (mS mp1) ix2 rfl ?_
  refine W.sipush (255) d14_21 (by decide) ?_
  refine W.iandK x3 d14_24 (z_b255 hx3) ?_
  refine W.i2cK x3 d14_25 (z_i2c (by omega)) ?_
  refine W.castore (D' := (p2, true, ar ad_p2 .char [(vi x1), (vi x2), (vi x3)]) :: F) 0 2 d14_26 rfl ix2 (Nat.le_of_ble_eq_true rfl) (z_narC (by omega)) rfl ?_
  refine W.iincK (ls' := #[rv p1, iv 3, rv p2, iv 3, iv 3, iv 3]) (1) (3 : Int32) d14_27 (by decide) rfl (by decide) rfl ?_
  refine W.goto 3 d14_30 (by decide) ?_
  refine W.iload d14_3 rfl ?_
  refine W.iload d14_5 rfl ?_
  refine W.icmpY 33 d14_7 (y_ge (by decide)) (by decide) ?_
  exact W.return_ d14_33 rfl (by decide) ⟨rfl, rfl⟩
theorem pd__BI_CII_V : parseMethodDescriptor "([BI[CII)V" = some ⟨[(.array .byte), .int, (.array .char), .int, .int], none⟩ := by decide +kernel
theorem d13_14 : decode jdk_43_method_9_code 14 = .ok (.aload_n 1, 1) := by decide +kernel
theorem d13_15 : decode jdk_43_method_9_code 15 = .ok (.areturn, 1) := by decide +kernel
abbrev y19 : MethodName := ⟨"java/lang/StringLatin1", "toChars", "([B)[C"⟩
abbrev y19b : ByteArray := jdk_43_method_9_code
abbrev y19r : Option Jvm.ClassFile.FieldType := (Option.some (Jvm.ClassFile.FieldType.array Jvm.ClassFile.FieldType.char))
theorem c25_toChars {Z a0} (hw : HW a0 Z) (hs : SF Z) {p1 : Addr} {x1 : Int32} (hx1 : 0 ≤ x1.toInt ∧ x1.toInt ≤ 255) {x2 : Int32} (hx2 : 0 ≤ x2.toInt ∧ x2.toInt ≤ 255) {x3 : Int32} (hx3 : 0 ≤ x3.toInt ∧ x3.toInt ≤ 255) {w_p1 : Bool} {ad_p1 : String} {F : List Ent} (mp1 : (p1, w_p1, ar ad_p1 .byte [(vi x1.toInt8.toInt32), (vi x2.toInt8.toInt32), (vi x3.toInt8.toInt32)]) ∈ F) : Con Z EL y19 y19b 2 y19r (rmm 1 1 3 17) [(vr p1)] (F) (fun v D' => (∃ a1 : Addr, v = some (vr a1) ∧ (a1, true, ar "[C" .char [(vi x1), (vi x2), (vi x3)]) :: F = D')) := by
  refine Con.of (ls := #[rv p1, uu]) (by decide +kernel) rfl ?_
  refine W.aloadN d13_0 rfl rfl ?_
  refine W.alen (3) d13_1 mp1 rfl ?_
  refine W.newarr 3 (ad := "[C") (ty := .char) d13_2 rfl (wq hw 0 rfl) ix3 rfl (by decide) (by decide) (fun a1 => ?_)
  show W _ _ _ _ _ _ _ _ _ _ _ _ 4 _ [(vr a1)]
  refine W.astoreN (ls' := #[rv p1, rv a1]) d13_4 rfl rfl ?_
  refine W.aloadN d13_5 rfl rfl ?_
  refine W.iconst (0) d13_6 (by decide) ?_
  refine W.aloadN d13_7 rfl rfl ?_
  refine W.iconst (0) d13_8 (by decide) ?_
  refine W.aloadN d13_9 rfl rfl ?_
  refine W.alen (3) d13_10 (mS mp1) rfl ?_
  refine W.callS (as := [(vr p1), (vi 0), (vr a1), (vi 0), (vi 3)]) 0 [] d13_11 (wq hw 93 rfl) (wq hw 94 rfl) (wq hw 91 rfl) (wq hw 95 rfl) (c26_inflate hw hs (hx1 := hx1) (hx2 := hx2) (hx3 := hx3) (mp1 := mp1)) (by decide) pd__BI_CII_V rfl rfl rfl rfl (by decide) (fun v D' h => ?_)
  obtain ⟨rfl, rfl⟩ := h
  show W _ _ _ _ _ _ _ _ _ _ _ _ 14 _ []
  refine W.aloadN d13_14 rfl rfl ?_
  exact W.areturn d13_15 rfl rfl rfl (by decide) ⟨a1, rfl, rfl⟩
theorem pd__B__C : parseMethodDescriptor "([B)[C" = some ⟨[(.array .byte)], some (.array .char)⟩ := by decide +kernel
theorem d11_14 : decode jdk_42_method_129_code 14 = .ok (.goto 10, 3) := by decide +kernel
theorem d11_24 : decode jdk_42_method_129_code 24 = .ok (.areturn, 1) := by decide +kernel
abbrev y20 : MethodName := ⟨"java/lang/String", "toCharArray", "()[C"⟩
abbrev y20b : ByteArray := jdk_42_method_129_code
abbrev y20r : Option Jvm.ClassFile.FieldType := (Option.some (Jvm.ClassFile.FieldType.array Jvm.ClassFile.FieldType.char))
theorem c23_toCharArray {Z a0} (hw : HW a0 Z) (hs : SF Z) {p1 p2 : Addr} {x1 : Int32} (hx1 : 0 ≤ x1.toInt ∧ x1.toInt ≤ 255) {x2 : Int32} (hx2 : 0 ≤ x2.toInt ∧ x2.toInt ≤ 255) {x3 : Int32} (hx3 : 0 ≤ x3.toInt ∧ x3.toInt ≤ 255) {w_p1 : Bool} {w_p2 : Bool} {ad_p2 : String} {F : List Ent} (mp1 : (p1, w_p1, oString (vr p2) (vi 0)) ∈ F) (mp2 : (p2, w_p2, ar ad_p2 .byte [(vi x1.toInt8.toInt32), (vi x2.toInt8.toInt32), (vi x3.toInt8.toInt32)]) ∈ F) : Con Z EL y20 y20b 1 y20r (rmm 2 1 3 30) [(vr p1)] (F) (fun v D' => (∃ a1 : Addr, v = some (vr a1) ∧ (a1, true, ar "[C" .char [(vi x1), (vi x2), (vi x3)]) :: F = D')) := by
  refine Con.of (ls := #[rv p1]) (by decide +kernel) rfl ?_
  refine W.aloadN d11_0 rfl rfl ?_
  refine W.callV (as := []) 0 [] d11_1 (wq hw 84 rfl) (wq hw 85 rfl) (wq hw 87 rfl) (wq hw 87 rfl) (wq hw 86 rfl) (wq hw 3 rfl) (wq hw 88 rfl) (Hp.exa mp1) (c24_isLatin1 hw hs (mp1 := mp1)) (by decide) pd__Z rfl rfl rfl rfl (by decide) (fun v D' h => ?_)
  obtain ⟨rfl, rfl⟩ := h
  show W _ _ _ _ _ _ _ _ _ _ _ _ 4 _ [(vi 1)]
  refine W.ifN d11_4 (n_eq (by decide)) ?_
  refine W.aloadN d11_7 rfl rfl ?_
  refine W.getf d11_8 (wq hw 20 rfl) Via.refl mp1 m0 ?_
  refine W.callS (as := [(vr p2)]) 0 [] d11_11 (wq hw 89 rfl) (wq hw 90 rfl) (wq hw 91 rfl) (wq hw 92 rfl) (c25_toChars hw hs (hx1 := hx1) (hx2 := hx2) (hx3 := hx3) (mp1 := mp2)) (by decide) pd__B__C rfl rfl rfl rfl (by decide) (fun v D' h => ?_)
  obtain ⟨a1, rfl, rfl⟩ := h
  show W _ _ _ _ _ _ _ _ _ _ _ _ 14 _ [(vr a1)]
  refine W.goto 24 d11_14 (by decide) ?_
  exact W.areturn d11_24 rfl rfl rfl (by decide) ⟨a1, rfl, rfl⟩
theorem pd___C : parseMethodDescriptor "()[C" = some ⟨[], some (.array .char)⟩ := by decide +kernel
theorem d6_22 : decode prog_12_method_5_code 22 = .ok (.astore_n 2, 1) := by decide +kernel
theorem d6_23 : decode prog_12_method_5_code 23 = .ok (.aload_n 2, 1) := by decide +kernel
theorem d6_24 : decode prog_12_method_5_code 24 = .ok (.arraylength, 1) := by decide +kernel
theorem d6_25 : decode prog_12_method_5_code 25 = .ok (.istore_n 3, 1) := by decide +kernel
theorem d6_26 : decode prog_12_method_5_code 26 = .ok (.iconst 0, 1) := by decide +kernel
theorem d6_27 : decode prog_12_method_5_code 27 = .ok (.istore 4, 2) := by decide +kernel
theorem d6_29 : decode prog_12_method_5_code 29 = .ok (.iload 4, 2) := by decide +kernel
theorem d6_31 : decode prog_12_method_5_code 31 = .ok (.iload_n 3, 1) := by decide +kernel
theorem d6_32 : decode prog_12_method_5_code 32 = .ok (.if_icmp .ge 48, 3) := by decide +kernel
theorem d6_35 : decode prog_12_method_5_code 35 = .ok (.aload_n 2, 1) := by decide +kernel
theorem d6_36 : decode prog_12_method_5_code 36 = .ok (.iload 4, 2) := by decide +kernel
theorem d6_38 : decode prog_12_method_5_code 38 = .ok (.caload, 1) := by decide +kernel
theorem d6_39 : decode prog_12_method_5_code 39 = .ok (.istore 5, 2) := by decide +kernel
theorem d6_41 : decode prog_12_method_5_code 41 = .ok (.aload_n 1, 1) := by decide +kernel
theorem d6_42 : decode prog_12_method_5_code 42 = .ok (.iload 5, 2) := by decide +kernel
theorem d6_44 : decode prog_12_method_5_code 44 = .ok (.bipush 65, 2) := by decide +kernel
theorem d6_46 : decode prog_12_method_5_code 46 = .ok (.if_icmp .lt 22, 3) := by decide +kernel
theorem d6_68 : decode prog_12_method_5_code 68 = .ok (.iload 5, 2) := by decide +kernel
theorem d6_49 : decode prog_12_method_5_code 49 = .ok (.iload 5, 2) := by decide +kernel
theorem d6_51 : decode prog_12_method_5_code 51 = .ok (.bipush 90, 2) := by decide +kernel
theorem d6_53 : decode prog_12_method_5_code 53 = .ok (.if_icmp .gt 15, 3) := by decide +kernel
theorem d6_56 : decode prog_12_method_5_code 56 = .ok (.iload 5, 2) := by decide +kernel
theorem d6_58 : decode prog_12_method_5_code 58 = .ok (.bipush 65, 2) := by decide +kernel
theorem d6_60 : decode prog_12_method_5_code 60 = .ok (.isub, 1) := by decide +kernel
theorem d6_61 : decode prog_12_method_5_code 61 = .ok (.bipush 97, 2) := by decide +kernel
theorem d6_63 : decode prog_12_method_5_code 63 = .ok (.iadd, 1) := by decide +kernel
theorem d6_64 : decode prog_12_method_5_code 64 = .ok (.i2c, 1) := by decide +kernel
theorem q65 : (65 : Int32).toInt = 65 := by decide
theorem q97 : (97 : Int32).toInt = 97 := by decide
theorem q90 : (90 : Int32).toInt = 90 := by decide
theorem d6_65 : decode prog_12_method_5_code 65 = .ok (.goto 5, 3) := by decide +kernel
theorem d6_70 : decode prog_12_method_5_code 70 = .ok (.invokevirtual 61, 3) := by decide +kernel
theorem d26_0 : decode jdk_67_method_14_code 0 = .ok (.aload_n 0, 1) := by decide +kernel
theorem d26_1 : decode jdk_67_method_14_code 1 = .ok (.iload_n 1, 1) := by decide +kernel
theorem d26_2 : decode jdk_67_method_14_code 2 = .ok (.invokespecial 50, 3) := by decide +kernel
theorem d27_0 : decode jdk_68_method_31_code 0 = .ok (.aload_n 0, 1) := by decide +kernel
theorem d27_1 : decode jdk_68_method_31_code 1 = .ok (.aload_n 0, 1) := by decide +kernel
theorem d27_2 : decode jdk_68_method_31_code 2 = .ok (.getfield 79, 3) := by decide +kernel
theorem d27_5 : decode jdk_68_method_31_code 5 = .ok (.iconst 1, 1) := by decide +kernel
theorem d27_6 : decode jdk_68_method_31_code 6 = .ok (.iadd, 1) := by decide +kernel
theorem d27_7 : decode jdk_68_method_31_code 7 = .ok (.invokevirtual 100, 3) := by decide +kernel
theorem d28_0 : decode jdk_68_method_9_code 0 = .ok (.aload_n 0, 1) := by decide +kernel
theorem d28_1 : decode jdk_68_method_9_code 1 = .ok (.getfield 15, 3) := by decide +kernel
theorem d28_4 : decode jdk_68_method_9_code 4 = .ok (.arraylength, 1) := by decide +kernel
theorem d28_5 : decode jdk_68_method_9_code 5 = .ok (.aload_n 0, 1) := by decide +kernel
theorem d28_6 : decode jdk_68_method_9_code 6 = .ok (.getfield 22, 3) := by decide +kernel
theorem d28_9 : decode jdk_68_method_9_code 9 = .ok (.ishr, 1) := by decide +kernel
theorem d28_10 : decode jdk_68_method_9_code 10 = .ok (.istore_n 2, 1) := by decide +kernel
theorem d28_11 : decode jdk_68_method_9_code 11 = .ok (.iload_n 1, 1) := by decide +kernel
theorem d28_12 : decode jdk_68_method_9_code 12 = .ok (.iload_n 2, 1) := by decide +kernel
theorem d28_13 : decode jdk_68_method_9_code 13 = .ok (.isub, 1) := by decide +kernel
theorem d28_14 : decode jdk_68_method_9_code 14 = .ok (.ifCond .le 24, 3) := by decide +kernel
theorem d28_38 : decode jdk_68_method_9_code 38 = .ok (.return_, 1) := by decide +kernel
abbrev y21 : MethodName := ⟨"java/lang/AbstractStringBuilder", "ensureCapacityInternal", "(I)V"⟩
abbrev y21b : ByteArray := jdk_68_method_9_code
abbrev y21r : Option Jvm.ClassFile.FieldType := (Option.none : Option Jvm.ClassFile.FieldType)
theorem c29_ensureCapacityInternal {Z a0} (hw : HW a0 Z) (hs : SF Z) {p1 p2 : Addr} {f_p1_2 f_p1_3 : Value} {vs_p2 : List Value} (hvs_p2 : vs_p2.length = 3) {w_p1 : Bool} {w_p2 : Bool} {ad_p2 : String} {F : List Ent} (mp1 : (p1, w_p1, oStringBuilder (vr p2) (vi 0) f_p1_2 f_p1_3) ∈ F) (mp2 : (p2, w_p2, ar ad_p2 .byte vs_p2) ∈ F) : Con Z EL y21 y21b 3 y21r (rmm 0 0 0 0) [(vr p1), (vi 1)] (F) (fun v D' => (v = none ∧ F = D')) := by
  refine Con.of (ls := #[rv p1, iv 1, uu]) (by decide +kernel) rfl ?_
  refine W.aloadN d28_0 rfl rfl ?_
  refine W.getf d28_1 (wq hw 75 rfl) Via.refl mp1 m0 ?_
  refine W.alen (3) d28_4 mp2 (by rw [hvs_p2]; rfl) ?_
  refine W.aloadN d28_5 rfl rfl ?_
  refine W.getf d28_6 (wq hw 77 rfl) Via.refl mp1 m1 ?_
  refine W.ishrK (3 : Int32) d28_9 (by decide) ?_
  refine W.istoreN (ls' := #[rv p1, iv 1, iv 3]) d28_10 rfl ?_
  refine W.iloadN d28_11 rfl ?_
  refine W.iloadN d28_12 rfl ?_
  refine W.isubK (-2 : Int32) d28_13 (by decide) ?_
  refine W.ifY 38 d28_14 (y_le (by decide)) (by decide) ?_
  exact W.return_ d28_38 rfl (by decide) ⟨rfl, rfl⟩
theorem d27_10 : decode jdk_68_method_31_code 10 = .ok (.aload_n 0, 1) := by decide +kernel
theorem d27_11 : decode jdk_68_method_31_code 11 = .ok (.invokevirtual 83, 3) := by decide +kernel
theorem d21_0 : decode jdk_68_method_68_code 0 = .ok (.getstatic 18, 3) := by decide +kernel
theorem d21_3 : decode jdk_68_method_68_code 3 = .ok (.ifCond .eq 14, 3) := by decide +kernel
theorem d21_6 : decode jdk_68_method_68_code 6 = .ok (.aload_n 0, 1) := by decide +kernel
theorem d21_7 : decode jdk_68_method_68_code 7 = .ok (.getfield 22, 3) := by decide +kernel
theorem d21_10 : decode jdk_68_method_68_code 10 = .ok (.ifCond .ne 7, 3) := by decide +kernel
theorem d21_13 : decode jdk_68_method_68_code 13 = .ok (.iconst 1, 1) := by decide +kernel
theorem d21_14 : decode jdk_68_method_68_code 14 = .ok (.goto 4, 3) := by decide +kernel
theorem d21_18 : decode jdk_68_method_68_code 18 = .ok (.ireturn, 1) := by decide +kernel
abbrev y22 : MethodName := ⟨"java/lang/AbstractStringBuilder", "isLatin1", "()Z"⟩
abbrev y22b : ByteArray := jdk_68_method_68_code
abbrev y22r : Option Jvm.ClassFile.FieldType := (Option.some Jvm.ClassFile.FieldType.boolean)
theorem c30_isLatin1 {Z a0} (hw : HW a0 Z) (hs : SF Z) {p1 : Addr} {f_p1_0 f_p1_2 f_p1_3 : Value} {w_p1 : Bool} {F : List Ent} (mp1 : (p1, w_p1, oStringBuilder f_p1_0 (vi 0) f_p1_2 f_p1_3) ∈ F) : Con Z EL y22 y22b 1 y22r (rmm 0 0 0 0) [(vr p1)] (F) (fun v D' => (v = some (vi 1) ∧ F = D')) := by
  refine Con.of (ls := #[rv p1]) (by decide +kernel) rfl ?_
  refine W.gets d21_0 (wq hw 74 rfl) Via.refl hs.1 ?_
  refine W.ifN d21_3 (n_eq (by have := hs.2.1; have := q0; omega)) ?_
  refine W.aloadN d21_6 rfl rfl ?_
  refine W.getf d21_7 (wq hw 77 rfl) Via.refl mp1 m1 ?_
  refine W.ifN d21_10 (n_ne (by decide)) ?_
  refine W.iconst (1) d21_13 (by decide) ?_
  refine W.goto 18 d21_14 (by decide) ?_
  exact W.ireturn d21_18 rfl (Or.inr (Or.inl rfl)) (nw_bool (by decide)) (by decide) ⟨rfl, rfl⟩
theorem d27_14 : decode jdk_68_method_31_code 14 = .ok (.ifCond .eq 31, 3) := by decide +kernel
theorem d27_17 : decode jdk_68_method_31_code 17 = .ok (.iload_n 1, 1) := by decide +kernel
theorem d27_18 : decode jdk_68_method_31_code 18 = .ok (.invokestatic 191, 3) := by decide +kernel
theorem d29_0 : decode jdk_43_method_3_code 0 = .ok (.iload_n 0, 1) := by decide +kernel
theorem d29_1 : decode jdk_43_method_3_code 1 = .ok (.sipush 255, 3) := by decide +kernel
theorem d29_4 : decode jdk_43_method_3_code 4 = .ok (.if_icmp .gt 7, 3) := by decide +kernel
theorem d29_7 : decode jdk_43_method_3_code 7 = .ok (.iconst 1, 1) := by decide +kernel
theorem d29_8 : decode jdk_43_method_3_code 8 = .ok (.goto 4, 3) := by decide +kernel
theorem d29_12 : decode jdk_43_method_3_code 12 = .ok (.ireturn, 1) := by decide +kernel
abbrev y23 : MethodName := ⟨"java/lang/StringLatin1", "canEncode", "(C)Z"⟩
abbrev y23b : ByteArray := jdk_43_method_3_code
abbrev y23r : Option Jvm.ClassFile.FieldType := (Option.some Jvm.ClassFile.FieldType.boolean)
theorem c31_canEncode {Z a0} (hw : HW a0 Z) (hs : SF Z) {x1 : Int32} (hx1 : 0 ≤ x1.toInt ∧ x1.toInt ≤ 255) {F : List Ent} : Con Z EL y23 y23b 1 y23r (rmm 0 0 0 0) [(vi x1)] (F) (fun v D' => (v = some (vi 1) ∧ F = D')) := by
  refine Con.of (ls := #[iv x1]) (by decide +kernel) rfl ?_
  refine W.iloadN d29_0 rfl ?_
  refine W.sipush (255) d29_1 (by decide) ?_
  refine W.icmpN d29_4 (n_gt (by have := q255; omega)) ?_
  refine W.iconst (1) d29_7 (by decide) ?_
  refine W.goto 12 d29_8 (by decide) ?_
  exact W.ireturn d29_12 rfl (Or.inr (Or.inl rfl)) (nw_bool (by decide)) (by decide) ⟨rfl, rfl⟩
theorem pd_C_Z : parseMethodDescriptor "(C)Z" = some ⟨[.char], some .boolean⟩ := by decide +kernel
theorem d27_21 : decode jdk_68_method_31_code 21 = .ok (.ifCond .eq 24, 3) := by decide +kernel
theorem d27_24 : decode jdk_68_method_31_code 24 = .ok (.aload_n 0, 1) := by decide +kernel
theorem d27_25 : decode jdk_68_method_31_code 25 = .ok (.getfield 15, 3) := by decide +kernel
theorem d27_28 : decode jdk_68_method_31_code 28 = .ok (.aload_n 0, 1) := by decide +kernel
theorem d27_29 : decode jdk_68_method_31_code 29 = .ok (.dup, 1) := by decide +kernel
theorem d27_30 : decode jdk_68_method_31_code 30 = .ok (.getfield 79, 3) := by decide +kernel
theorem d27_33 : decode jdk_68_method_31_code 33 = .ok (.dup_x1, 1) := by decide +kernel
theorem d27_34 : decode jdk_68_method_31_code 34 = .ok (.iconst 1, 1) := by decide +kernel
theorem d27_35 : decode jdk_68_method_31_code 35 = .ok (.iadd, 1) := by decide +kernel
theorem d27_36 : decode jdk_68_method_31_code 36 = .ok (.putfield 79, 3) := by decide +kernel
theorem d27_39 : decode jdk_68_method_31_code 39 = .ok (.iload_n 1, 1) := by decide +kernel
theorem d27_40 : decode jdk_68_method_31_code 40 = .ok (.i2b, 1) := by decide +kernel
theorem d27_41 : decode jdk_68_method_31_code 41 = .ok (.bastore, 1) := by decide +kernel
theorem d27_42 : decode jdk_68_method_31_code 42 = .ok (.goto 33, 3) := by decide +kernel
theorem d27_75 : decode jdk_68_method_31_code 75 = .ok (.aload_n 0, 1) := by decide +kernel
theorem d27_76 : decode jdk_68_method_31_code 76 = .ok (.areturn, 1) := by decide +kernel
abbrev y24 : MethodName := ⟨"java/lang/AbstractStringBuilder", "append", "(C)Ljava/lang/AbstractStringBuilder;"⟩
abbrev y24b : ByteArray := jdk_68_method_31_code
abbrev y24r : Option Jvm.ClassFile.FieldType := (Option.some (Jvm.ClassFile.FieldType.object "java/lang/AbstractStringBuilder"))
theorem c28_append {Z a0} (hw : HW a0 Z) (hs : SF Z) {p1 p2 : Addr} {x1 : Int32} (hx1 : 0 ≤ x1.toInt ∧ x1.toInt ≤ 255) {f_p1_3 e_p2_1 e_p2_2 : Value} {ad_p2 : String} {F : List Ent} : Con Z EL y24 y24b 2 y24r (rmm 1 0 0 14) [(vr p1), (vi x1)] ((p1, true, oStringBuilder (vr p2) (vi 0) (vi 0) f_p1_3) :: (p2, true, ar ad_p2 .byte [(vi 0), e_p2_1, e_p2_2]) :: F) (fun v D' => (v = some (vr p1) ∧ (p1, true, oStringBuilder (vr p2) (vi 0) (vi 1) f_p1_3) :: (p2, true, ar ad_p2 .byte [(vi x1.toInt8.toInt32), e_p2_1, e_p2_2]) :: F = D')) := by
  refine Con.of (ls := #[rv p1, iv x1]) (by decide +kernel) rfl ?_
  refine W.aloadN d27_0 rfl rfl ?_
  refine W.aloadN d27_1 rfl rfl ?_
  refine W.getf d27_2 (wq hw 122 rfl) Via.refl m0 m2 ?_
  refine W.iconst (1) d27_5 (by decide) ?_
  refine W.iaddK (1 : Int32) d27_6 (by decide) ?_
  refine W.callP (as := [(vi 1)]) 0 [] d27_7 (wq hw 162 rfl) (wq hw 163 rfl) (wq hw 165 rfl) (wq hw 164 rfl) (wq hw 71 rfl) (wq hw 166 rfl) (Hp.exa m0) (c29_ensureCapacityInternal hw hs (hvs_p2 := rfl) (mp1 := m0) (mp2 := m1)) (by decide) pd_I_V rfl rfl rfl rfl (by decide) (fun v D' h => ?_)
  obtain ⟨rfl, rfl⟩ := h
  show W _ _ _ _ _ _ _ _ _ _ _ _ 10 _ []
  refine W.aloadN d27_10 rfl rfl ?_
  refine W.callV (as := []) 0 [] d27_11 (wq hw 167 rfl) (wq hw 125 rfl) (wq hw 127 rfl) (wq hw 127 rfl) (wq hw 126 rfl) (wq hw 71 rfl) (wq hw 128 rfl) (Hp.exa m0) (c30_isLatin1 hw hs (mp1 := m0)) (by decide) pd__Z rfl rfl rfl rfl (by decide) (fun v D' h => ?_)
  obtain ⟨rfl, rfl⟩ := h
  show W _ _ _ _ _ _ _ _ _ _ _ _ 14 _ [(vi 1)]
  refine W.ifN d27_14 (n_eq (by decide)) ?_
  refine W.iloadN d27_17 rfl ?_
  refine W.callS (as := [(vi x1)]) 0 [] d27_18 (wq hw 168 rfl) (wq hw 169 rfl) (wq hw 91 rfl) (wq hw 170 rfl) (c31_canEncode hw hs (hx1 := hx1)) (by decide) pd_C_Z rfl rfl rfl rfl (by decide) (fun v D' h => ?_)
  obtain ⟨rfl, rfl⟩ := h
  show W _ _ _ _ _ _ _ _ _ _ _ _ 21 _ [(vi 1)]
  refine W.ifN d27_21 (n_eq (by decide)) ?_
  refine W.aloadN d27_24 rfl rfl ?_
  refine W.getf d27_25 (wq hw 75 rfl) Via.refl m0 m0 ?_
  refine W.aloadN d27_28 rfl rfl ?_
  refine W.dup d27_29 rfl ?_
  refine W.getf d27_30 (wq hw 122 rfl) Via.refl m0 m2 ?_
  refine W.dupX1 d27_33 rfl rfl ?_
  refine W.iconst (1) d27_34 (by decide) ?_
  refine W.iaddK (1 : Int32) d27_35 (by decide) ?_
  refine W.putf (D' := (p1, true, oStringBuilder (vr p2) (vi 0) (vi 1) f_p1_3) :: (p2, true, ar ad_p2 .byte [(vi 0), e_p2_1, e_p2_2]) :: F) 0 2 d27_36 (wq hw 122 rfl) Via.refl rfl rfl (Or.inl (wq hw 123 rfl)) (wq hw 51 rfl) pfI rfl rfl rfl ?_
  refine W.iloadN d27_39 rfl ?_
  refine W.i2b d27_40 ?_
  refine W.bastore (D' := (p1, true, oStringBuilder (vr p2) (vi 0) (vi 1) f_p1_3) :: (p2, true, ar ad_p2 .byte [(vi x1.toInt8.toInt32), e_p2_1, e_p2_2]) :: F) 1 0 d27_41 rfl ix0 (Nat.le_of_ble_eq_true rfl) (z_narB (by have := a_i2b x1; omega)) rfl ?_
  refine W.goto 75 d27_42 (by decide) ?_
  refine W.aloadN d27_75 rfl rfl ?_
  exact W.areturn d27_76 rfl rfl rfl (by decide) ⟨rfl, rfl⟩
theorem pd_C_Ljava_lang_AbstractStringBuilder_ : parseMethodDescriptor "(C)Ljava/lang/AbstractStringBuilder;" = some ⟨[.char], some (.object "java/lang/AbstractStringBuilder")⟩ := by decide +kernel
theorem d26_5 : decode jdk_67_method_14_code 5 = .ok (.pop, 1) := by decide +kernel
theorem d26_6 : decode jdk_67_method_14_code 6 = .ok (.aload_n 0, 1) := by decide +kernel
theorem d26_7 : decode jdk_67_method_14_code 7 = .ok (.areturn, 1) := by decide +kernel
abbrev y25 : MethodName := ⟨"java/lang/StringBuilder", "append", "(C)Ljava/lang/StringBuilder;"⟩
abbrev y25b : ByteArray := jdk_67_method_14_code
abbrev y25r : Option Jvm.ClassFile.FieldType := (Option.some (Jvm.ClassFile.FieldType.object "java/lang/StringBuilder"))
theorem c27_append {Z a0} (hw : HW a0 Z) (hs : SF Z) {p1 p2 : Addr} {x1 : Int32} (hx1 : 0 ≤ x1.toInt ∧ x1.toInt ≤ 255) {f_p1_3 e_p2_1 e_p2_2 : Value} {ad_p2 : String} {F : List Ent} : Con Z EL y25 y25b 2 y25r (rmm 2 0 0 27) [(vr p1), (vi x1)] ((p1, true, oStringBuilder (vr p2) (vi 0) (vi 0) f_p1_3) :: (p2, true, ar ad_p2 .byte [(vi 0), e_p2_1, e_p2_2]) :: F) (fun v D' => (v = some (vr p1) ∧ (p1, true, oStringBuilder (vr p2) (vi 0) (vi 1) f_p1_3) :: (p2, true, ar ad_p2 .byte [(vi x1.toInt8.toInt32), e_p2_1, e_p2_2]) :: F = D')) := by
  refine Con.of (ls := #[rv p1, iv x1]) (by decide +kernel) rfl ?_
  refine W.aloadN d26_0 rfl rfl ?_
  refine W.iloadN d26_1 rfl ?_
  refine W.callUp (as := [(vi x1)]) 0 [] d26_2 (wq hw 158 rfl) (same_self (by rfl) (by decide) (wq hw 159 rfl) (wq hw 110 rfl) (wq hw 111 rfl)) (wq hw 159 rfl) (wq hw 120 rfl) (by decide) (wq hw 71 rfl) (wq hw 161 rfl) (Hp.ins m0) (c28_append hw hs (hx1 := hx1)) pd_C_Ljava_lang_AbstractStringBuilder_ rfl rfl rfl rfl (by decide) (fun v D' h => ?_)
  obtain ⟨rfl, rfl⟩ := h
  show W _ _ _ _ _ _ _ _ _ _ _ _ 5 _ [(vr p1)]
  refine W.popv d26_5 rfl ?_
  refine W.aloadN d26_6 rfl rfl ?_
  exact W.areturn d26_7 rfl rfl rfl (by decide) ⟨rfl, rfl⟩
theorem pd_C_Ljava_lang_StringBuilder_ : parseMethodDescriptor "(C)Ljava/lang/StringBuilder;" = some ⟨[.char], some (.object "java/lang/StringBuilder")⟩ := by decide +kernel
theorem d6_73 : decode prog_12_method_5_code 73 = .ok (.pop, 1) := by decide +kernel
theorem d6_74 : decode prog_12_method_5_code 74 = .ok (.iinc 4 1, 3) := by decide +kernel
theorem d6_77 : decode prog_12_method_5_code 77 = .ok (.goto (-48), 3) := by decide +kernel
theorem c34_ensureCapacityInternal {Z a0} (hw : HW a0 Z) (hs : SF Z) {p1 p2 : Addr} {f_p1_2 f_p1_3 : Value} {vs_p2 : List Value} (hvs_p2 : vs_p2.length = 3) {w_p1 : Bool} {w_p2 : Bool} {ad_p2 : String} {F : List Ent} (mp1 : (p1, w_p1, oStringBuilder (vr p2) (vi 0) f_p1_2 f_p1_3) ∈ F) (mp2 : (p2, w_p2, ar ad_p2 .byte vs_p2) ∈ F) : Con Z EL y21 y21b 3 y21r (rmm 0 0 0 0) [(vr p1), (vi 2)] (F) (fun v D' => (v = none ∧ F = D')) := by
  refine Con.of (ls := #[rv p1, iv 2, uu]) (by decide +kernel) rfl ?_
  refine W.aloadN d28_0 rfl rfl ?_
  refine W.getf d28_1 (wq hw 75 rfl) Via.refl mp1 m0 ?_
  refine W.alen (3) d28_4 mp2 (by rw [hvs_p2]; rfl) ?_
  refine W.aloadN d28_5 rfl rfl ?_
  refine W.getf d28_6 (wq hw 77 rfl) Via.refl mp1 m1 ?_
  refine W.ishrK (3 : Int32) d28_9 (by decide) ?_
  refine W.istoreN (ls' := #[rv p1, iv 2, iv 3]) d28_10 rfl ?_
  refine W.iloadN d28_11 rfl ?_
  refine W.iloadN d28_12 rfl ?_
  refine W.isubK (-1 : Int32) d28_13 (by decide) ?_
  refine W.ifY 38 d28_14 (y_le (by decide)) (by decide) ?_
  exact W.return_ d28_38 rfl (by decide) ⟨rfl, rfl⟩
theorem c33_append {Z a0} (hw : HW a0 Z) (hs : SF Z) {p1 p2 : Addr} {x1 : Int32} (hx1 : 0 ≤ x1.toInt ∧ x1.toInt ≤ 255) {f_p1_3 e_p2_0 e_p2_2 : Value} {ad_p2 : String} {F : List Ent} : Con Z EL y24 y24b 2 y24r (rmm 1 0 0 14) [(vr p1), (vi x1)] ((p1, true, oStringBuilder (vr p2) (vi 0) (vi 1) f_p1_3) :: (p2, true, ar ad_p2 .byte [e_p2_0, (vi 0), e_p2_2]) :: F) (fun v D' => (v = some (vr p1) ∧ (p1, true, oStringBuilder (vr p2) (vi 0) (vi 2) f_p1_3) :: (p2, true, ar ad_p2 .byte [e_p2_0, (vi x1.toInt8.toInt32), e_p2_2]) :: F = D')) := by
  refine Con.of (ls := #[rv p1, iv x1]) (by decide +kernel) rfl ?_
  refine W.aloadN d27_0 rfl rfl ?_
  refine W.aloadN d27_1 rfl rfl ?_
  refine W.getf d27_2 (wq hw 122 rfl) Via.refl m0 m2 ?_
  refine W.iconst (1) d27_5 (by decide) ?_
  refine W.iaddK (2 : Int32) d27_6 (by decide) ?_
  refine W.callP (as := [(vi 2)]) 0 [] d27_7 (wq hw 162 rfl) (wq hw 163 rfl) (wq hw 165 rfl) (wq hw 164 rfl) (wq hw 71 rfl) (wq hw 166 rfl) (Hp.exa m0) (c34_ensureCapacityInternal hw hs (hvs_p2 := rfl) (mp1 := m0) (mp2 := m1)) (by decide) pd_I_V rfl rfl rfl rfl (by decide) (fun v D' h => ?_)
  obtain ⟨rfl, rfl⟩ := h
  show W _ _ _ _ _ _ _ _ _ _ _ _ 10 _ []
  refine W.aloadN d27_10 rfl rfl ?_
  refine W.callV (as := []) 0 [] d27_11 (wq hw 167 rfl) (wq hw 125 rfl) (wq hw 127 rfl) (wq hw 127 rfl) (wq hw 126 rfl) (wq hw 71 rfl) (wq hw 128 rfl) (Hp.exa m0) (c30_isLatin1 hw hs (mp1 := m0)) (by decide) pd__Z rfl rfl rfl rfl (by decide) (fun v D' h => ?_)
  obtain ⟨rfl, rfl⟩ := h
  show W _ _ _ _ _ _ _ _ _ _ _ _ 14 _ [(vi 1)]
  refine W.ifN d27_14 (n_eq (by decide)) ?_
  refine W.iloadN d27_17 rfl ?_
  refine W.callS (as := [(vi x1)]) 0 [] d27_18 (wq hw 168 rfl) (wq hw 169 rfl) (wq hw 91 rfl) (wq hw 170 rfl) (c31_canEncode hw hs (hx1 := hx1)) (by decide) pd_C_Z rfl rfl rfl rfl (by decide) (fun v D' h => ?_)
  obtain ⟨rfl, rfl⟩ := h
  show W _ _ _ _ _ _ _ _ _ _ _ _ 21 _ [(vi 1)]
  refine W.ifN d27_21 (n_eq (by decide)) ?_
  refine W.aloadN d27_24 rfl rfl ?_
  refine W.getf d27_25 (wq hw 75 rfl) Via.refl m0 m0 ?_
  refine W.aloadN d27_28 rfl rfl ?_
  refine W.dup d27_29 rfl ?_
  refine W.getf d27_30 (wq hw 122 rfl) Via.refl m0 m2 ?_
  refine W.dupX1 d27_33 rfl rfl ?_
  refine W.iconst (1) d27_34 (by decide) ?_
  refine W.iaddK (2 : Int32) d27_35 (by decide) ?_
  refine W.putf (D' := (p1, true, oStringBuilder (vr p2) (vi 0) (vi 2) f_p1_3) :: (p2, true, ar ad_p2 .byte [e_p2_0, (vi 0), e_p2_2]) :: F) 0 2 d27_36 (wq hw 122 rfl) Via.refl rfl rfl (Or.inl (wq hw 123 rfl)) (wq hw 51 rfl) pfI rfl rfl rfl ?_
  refine W.iloadN d27_39 rfl ?_
  refine W.i2b d27_40 ?_
  refine W.bastore (D' := (p1, true, oStringBuilder (vr p2) (vi 0) (vi 2) f_p1_3) :: (p2, true, ar ad_p2 .byte [e_p2_0, (vi x1.toInt8.toInt32), e_p2_2]) :: F) 1 1 d27_41 rfl ix1 (Nat.le_of_ble_eq_true rfl) (z_narB (by have := a_i2b x1; omega)) rfl ?_
  refine W.goto 75 d27_42 (by decide) ?_
  refine W.aloadN d27_75 rfl rfl ?_
  exact W.areturn d27_76 rfl rfl rfl (by decide) ⟨rfl, rfl⟩
theorem c32_append {Z a0} (hw : HW a0 Z) (hs : SF Z) {p1 p2 : Addr} {x1 : Int32} (hx1 : 0 ≤ x1.toInt ∧ x1.toInt ≤ 255) {f_p1_3 e_p2_0 e_p2_2 : Value} {ad_p2 : String} {F : List Ent} : Con Z EL y25 y25b 2 y25r (rmm 2 0 0 27) [(vr p1), (vi x1)] ((p1, true, oStringBuilder (vr p2) (vi 0) (vi 1) f_p1_3) :: (p2, true, ar ad_p2 .byte [e_p2_0, (vi 0), e_p2_2]) :: F) (fun v D' => (v = some (vr p1) ∧ (p1, true, oStringBuilder (vr p2) (vi 0) (vi 2) f_p1_3) :: (p2, true, ar ad_p2 .byte [e_p2_0, (vi x1.toInt8.toInt32), e_p2_2]) :: F = D')) := by
  refine Con.of (ls := #[rv p1, iv x1]) (by decide +kernel) rfl ?_
  refine W.aloadN d26_0 rfl rfl ?_
  refine W.iloadN d26_1 rfl ?_
  refine W.callUp (as := [(vi x1)]) 0 [] d26_2 (wq hw 158 rfl) (same_self (by rfl) (by decide) (wq hw 159 rfl) (wq hw 110 rfl) (wq hw 111 rfl)) (wq hw 159 rfl) (wq hw 120 rfl) (by decide) (wq hw 71 rfl) (wq hw 161 rfl) (Hp.ins m0) (c33_append hw hs (hx1 := hx1)) pd_C_Ljava_lang_AbstractStringBuilder_ rfl rfl rfl rfl (by decide) (fun v D' h => ?_)
  obtain ⟨rfl, rfl⟩ := h
  show W _ _ _ _ _ _ _ _ _ _ _ _ 5 _ [(vr p1)]
  refine W.popv d26_5 rfl ?_
  refine W.aloadN d26_6 rfl rfl ?_
  exact W.areturn d26_7 rfl rfl rfl (by decide) ⟨rfl, rfl⟩
theorem c37_ensureCapacityInternal {Z a0} (hw : HW a0 Z) (hs : SF Z) {p1 p2 : Addr} {f_p1_2 f_p1_3 : Value} {vs_p2 : List Value} (hvs_p2 : vs_p2.length = 3) {w_p1 : Bool} {w_p2 : Bool} {ad_p2 : String} {F : List Ent} (mp1 : (p1, w_p1, oStringBuilder (vr p2) (vi 0) f_p1_2 f_p1_3) ∈ F) (mp2 : (p2, w_p2, ar ad_p2 .byte vs_p2) ∈ F) : Con Z EL y21 y21b 3 y21r (rmm 0 0 0 0) [(vr p1), (vi 3)] (F) (fun v D' => (v = none ∧ F = D')) := by
  refine Con.of (ls := #[rv p1, iv 3, uu]) (by decide +kernel) rfl ?_
  refine W.aloadN d28_0 rfl rfl ?_
  refine W.getf d28_1 (wq hw 75 rfl) Via.refl mp1 m0 ?_
  refine W.alen (3) d28_4 mp2 (by rw [hvs_p2]; rfl) ?_
  refine W.aloadN d28_5 rfl rfl ?_
  refine W.getf d28_6 (wq hw 77 rfl) Via.refl mp1 m1 ?_
  refine W.ishrK (3 : Int32) d28_9 (by decide) ?_
  refine W.istoreN (ls' := #[rv p1, iv 3, iv 3]) d28_10 rfl ?_
  refine W.iloadN d28_11 rfl ?_
  refine W.iloadN d28_12 rfl ?_
  refine W.isubK (0 : Int32) d28_13 (by decide) ?_
  refine W.ifY 38 d28_14 (y_le (by decide)) (by decide) ?_
  exact W.return_ d28_38 rfl (by decide) ⟨rfl, rfl⟩
theorem c36_append {Z a0} (hw : HW a0 Z) (hs : SF Z) {p1 p2 : Addr} {x1 : Int32} (hx1 : 0 ≤ x1.toInt ∧ x1.toInt ≤ 255) {f_p1_3 e_p2_0 e_p2_1 : Value} {ad_p2 : String} {F : List Ent} : Con Z EL y24 y24b 2 y24r (rmm 1 0 0 14) [(vr p1), (vi x1)] ((p1, true, oStringBuilder (vr p2) (vi 0) (vi 2) f_p1_3) :: (p2, true, ar ad_p2 .byte [e_p2_0, e_p2_1, (vi 0)]) :: F) (fun v D' => (v = some (vr p1) ∧ (p1, true, oStringBuilder (vr p2) (vi 0) (vi 3) f_p1_3) :: (p2, true, ar ad_p2 .byte [e_p2_0, e_p2_1, (vi x1.toInt8.toInt32)]) :: F = D')) := by
  refine Con.of (ls := #[rv p1, iv x1]) (by decide +kernel) rfl ?_
  refine W.aloadN d27_0 rfl rfl ?_
  refine W.aloadN d27_1 rfl rfl ?_
  refine W.getf d27_2 (wq hw 122 rfl) Via.refl m0 m2 ?_
  refine W.iconst (1) d27_5 (by decide) ?_
  refine W.iaddK (3 : Int32) d27_6 (by decide) ?_
  refine W.callP (as := [(vi 3)]) 0 [] d27_7 (wq hw 162 rfl) (wq hw 163 rfl) (wq hw 165 rfl) (wq hw 164 rfl) (wq hw 71 rfl) (wq hw 166 rfl) (Hp.exa m0) (c37_ensureCapacityInternal hw hs (hvs_p2 := rfl) (mp1 := m0) (mp2 := m1)) (by decide) pd_I_V rfl rfl rfl rfl (by decide) (fun v D' h => ?_)
  obtain ⟨rfl, rfl⟩ := h
  show W _ _ _ _ _ _ _ _ _ _ _ _ 10 _ []
  refine W.aloadN d27_10 rfl rfl ?_
  refine W.callV (as := []) 0 [] d27_11 (wq hw 167 rfl) (wq hw 125 rfl) (wq hw 127 rfl) (wq hw 127 rfl) (wq hw 126 rfl) (wq hw 71 rfl) (wq hw 128 rfl) (Hp.exa m0) (c30_isLatin1 hw hs (mp1 := m0)) (by decide) pd__Z rfl rfl rfl rfl (by decide) (fun v D' h => ?_)
  obtain ⟨rfl, rfl⟩ := h
  show W _ _ _ _ _ _ _ _ _ _ _ _ 14 _ [(vi 1)]
  refine W.ifN d27_14 (n_eq (by decide)) ?_
  refine W.iloadN d27_17 rfl ?_
  refine W.callS (as := [(vi x1)]) 0 [] d27_18 (wq hw 168 rfl) (wq hw 169 rfl) (wq hw 91 rfl) (wq hw 170 rfl) (c31_canEncode hw hs (hx1 := hx1)) (by decide) pd_C_Z rfl rfl rfl rfl (by decide) (fun v D' h => ?_)
  obtain ⟨rfl, rfl⟩ := h
  show W _ _ _ _ _ _ _ _ _ _ _ _ 21 _ [(vi 1)]
  refine W.ifN d27_21 (n_eq (by decide)) ?_
  refine W.aloadN d27_24 rfl rfl ?_
  refine W.getf d27_25 (wq hw 75 rfl) Via.refl m0 m0 ?_
  refine W.aloadN d27_28 rfl rfl ?_
  refine W.dup d27_29 rfl ?_
  refine W.getf d27_30 (wq hw 122 rfl) Via.refl m0 m2 ?_
  refine W.dupX1 d27_33 rfl rfl ?_
  refine W.iconst (1) d27_34 (by decide) ?_
  refine W.iaddK (3 : Int32) d27_35 (by decide) ?_
  refine W.putf (D' := (p1, true, oStringBuilder (vr p2) (vi 0) (vi 3) f_p1_3) :: (p2, true, ar ad_p2 .byte [e_p2_0, e_p2_1, (vi 0)]) :: F) 0 2 d27_36 (wq hw 122 rfl) Via.refl rfl rfl (Or.inl (wq hw 123 rfl)) (wq hw 51 rfl) pfI rfl rfl rfl ?_
  refine W.iloadN d27_39 rfl ?_
  refine W.i2b d27_40 ?_
  refine W.bastore (D' := (p1, true, oStringBuilder (vr p2) (vi 0) (vi 3) f_p1_3) :: (p2, true, ar ad_p2 .byte [e_p2_0, e_p2_1, (vi x1.toInt8.toInt32)]) :: F) 1 2 d27_41 rfl ix2 (Nat.le_of_ble_eq_true rfl) (z_narB (by have := a_i2b x1; omega)) rfl ?_
  refine W.goto 75 d27_42 (by decide) ?_
  refine W.aloadN d27_75 rfl rfl ?_
  exact W.areturn d27_76 rfl rfl rfl (by decide) ⟨rfl, rfl⟩
theorem c35_append {Z a0} (hw : HW a0 Z) (hs : SF Z) {p1 p2 : Addr} {x1 : Int32} (hx1 : 0 ≤ x1.toInt ∧ x1.toInt ≤ 255) {f_p1_3 e_p2_0 e_p2_1 : Value} {ad_p2 : String} {F : List Ent} : Con Z EL y25 y25b 2 y25r (rmm 2 0 0 27) [(vr p1), (vi x1)] ((p1, true, oStringBuilder (vr p2) (vi 0) (vi 2) f_p1_3) :: (p2, true, ar ad_p2 .byte [e_p2_0, e_p2_1, (vi 0)]) :: F) (fun v D' => (v = some (vr p1) ∧ (p1, true, oStringBuilder (vr p2) (vi 0) (vi 3) f_p1_3) :: (p2, true, ar ad_p2 .byte [e_p2_0, e_p2_1, (vi x1.toInt8.toInt32)]) :: F = D')) := by
  refine Con.of (ls := #[rv p1, iv x1]) (by decide +kernel) rfl ?_
  refine W.aloadN d26_0 rfl rfl ?_
  refine W.iloadN d26_1 rfl ?_
  refine W.callUp (as := [(vi x1)]) 0 [] d26_2 (wq hw 158 rfl) (same_self (by rfl) (by decide) (wq hw 159 rfl) (wq hw 110 rfl) (wq hw 111 rfl)) (wq hw 159 rfl) (wq hw 120 rfl) (by decide) (wq hw 71 rfl) (wq hw 161 rfl) (Hp.ins m0) (c36_append hw hs (hx1 := hx1)) pd_C_Ljava_lang_AbstractStringBuilder_ rfl rfl rfl rfl (by decide) (fun v D' h => ?_)
  obtain ⟨rfl, rfl⟩ := h
  show W _ _ _ _ _ _ _ _ _ _ _ _ 5 _ [(vr p1)]
  refine W.popv d26_5 rfl ?_
  refine W.aloadN d26_6 rfl rfl ?_
  exact W.areturn d26_7 rfl rfl rfl (by decide) ⟨rfl, rfl⟩
theorem d6_80 : decode prog_12_method_5_code 80 = .ok (.aload_n 1, 1) := by decide +kernel
theorem d6_81 : decode prog_12_method_5_code 81 = .ok (.invokevirtual 65, 3) := by decide +kernel
theorem d15_0 : decode jdk_67_method_42_code 0 = .ok (.new 18, 3) := by decide +kernel
theorem d15_3 : decode jdk_67_method_42_code 3 = .ok (.dup, 1) := by decide +kernel
theorem d15_4 : decode jdk_67_method_42_code 4 = .ok (.aload_n 0, 1) := by decide +kernel
theorem d15_5 : decode jdk_67_method_42_code 5 = .ok (.invokespecial 137, 3) := by decide +kernel
theorem d16_0 : decode jdk_42_method_53_code 0 = .ok (.aload_n 0, 1) := by decide +kernel
theorem d16_1 : decode jdk_42_method_53_code 1 = .ok (.aload_n 1, 1) := by decide +kernel
theorem d16_2 : decode jdk_42_method_53_code 2 = .ok (.aconst_null, 1) := by decide +kernel
theorem d16_3 : decode jdk_42_method_53_code 3 = .ok (.invokespecial 489, 3) := by decide +kernel
theorem d17_0 : decode jdk_42_method_150_code 0 = .ok (.aload_n 0, 1) := by decide +kernel
theorem d17_1 : decode jdk_42_method_150_code 1 = .ok (.invokespecial 1, 3) := by decide +kernel
theorem d17_4 : decode jdk_42_method_150_code 4 = .ok (.aload_n 1, 1) := by decide +kernel
theorem d17_5 : decode jdk_42_method_150_code 5 = .ok (.invokevirtual 552, 3) := by decide +kernel
theorem d18_0 : decode jdk_68_method_64_code 0 = .ok (.aload_n 0, 1) := by decide +kernel
theorem d18_1 : decode jdk_68_method_64_code 1 = .ok (.getfield 15, 3) := by decide +kernel
theorem d18_4 : decode jdk_68_method_64_code 4 = .ok (.areturn, 1) := by decide +kernel
abbrev y26 : MethodName := ⟨"java/lang/AbstractStringBuilder", "getValue", "()[B"⟩
abbrev y26b : ByteArray := jdk_68_method_64_code
abbrev y26r : Option Jvm.ClassFile.FieldType := (Option.some (Jvm.ClassFile.FieldType.array Jvm.ClassFile.FieldType.byte))
theorem c41_getValue {Z a0} (hw : HW a0 Z) (hs : SF Z) {p1 p2 : Addr} {f_p1_1 f_p1_2 f_p1_3 : Value} {w_p1 : Bool} {F : List Ent} (mp1 : (p1, w_p1, oStringBuilder (vr p2) f_p1_1 f_p1_2 f_p1_3) ∈ F) : Con Z EL y26 y26b 1 y26r (rmm 0 0 0 0) [(vr p1)] (F) (fun v D' => (v = some (vr p2) ∧ F = D')) := by
  refine Con.of (ls := #[rv p1]) (by decide +kernel) rfl ?_
  refine W.aloadN d18_0 rfl rfl ?_
  refine W.getf d18_1 (wq hw 75 rfl) Via.refl mp1 m0 ?_
  exact W.areturn d18_4 rfl rfl rfl (by decide) ⟨rfl, rfl⟩
theorem pd___B : parseMethodDescriptor "()[B" = some ⟨[], some (.array .byte)⟩ := by decide +kernel
theorem d17_8 : decode jdk_42_method_150_code 8 = .ok (.astore_n 3, 1) := by decide +kernel
theorem d17_9 : decode jdk_42_method_150_code 9 = .ok (.aload_n 1, 1) := by decide +kernel
theorem d17_10 : decode jdk_42_method_150_code 10 = .ok (.invokevirtual 549, 3) := by decide +kernel
theorem d19_0 : decode jdk_67_method_93_code 0 = .ok (.aload_n 0, 1) := by decide +kernel
theorem d19_1 : decode jdk_67_method_93_code 1 = .ok (.invokespecial 343, 3) := by decide +kernel
theorem d20_0 : decode jdk_68_method_6_code 0 = .ok (.aload_n 0, 1) := by decide +kernel
theorem d20_1 : decode jdk_68_method_6_code 1 = .ok (.getfield 79, 3) := by decide +kernel
theorem d20_4 : decode jdk_68_method_6_code 4 = .ok (.ireturn, 1) := by decide +kernel
abbrev y27 : MethodName := ⟨"java/lang/AbstractStringBuilder", "length", "()I"⟩
abbrev y27b : ByteArray := jdk_68_method_6_code
abbrev y27r : Option Jvm.ClassFile.FieldType := (Option.some Jvm.ClassFile.FieldType.int)
theorem c43_length {Z a0} (hw : HW a0 Z) (hs : SF Z) {p1 : Addr} {x2 : Int32} {f_p1_0 f_p1_1 f_p1_3 : Value} {w_p1 : Bool} {F : List Ent} (mp1 : (p1, w_p1, oStringBuilder f_p1_0 f_p1_1 (vi x2) f_p1_3) ∈ F) : Con Z EL y27 y27b 1 y27r (rmm 0 0 0 0) [(vr p1)] (F) (fun v D' => (v = some (vi x2) ∧ F = D')) := by
  refine Con.of (ls := #[rv p1]) (by decide +kernel) rfl ?_
  refine W.aloadN d20_0 rfl rfl ?_
  refine W.getf d20_1 (wq hw 122 rfl) Via.refl mp1 m2 ?_
  exact W.ireturn d20_4 rfl (Or.inl rfl) rfl (by decide) ⟨rfl, rfl⟩
theorem d19_4 : decode jdk_67_method_93_code 4 = .ok (.ireturn, 1) := by decide +kernel
abbrev y28 : MethodName := ⟨"java/lang/StringBuilder", "length", "()I"⟩
abbrev y28b : ByteArray := jdk_67_method_93_code
abbrev y28r : Option Jvm.ClassFile.FieldType := (Option.some Jvm.ClassFile.FieldType.int)
theorem c42_length {Z a0} (hw : HW a0 Z) (hs : SF Z) {p1 : Addr} {x2 : Int32} {f_p1_0 f_p1_1 f_p1_3 : Value} {w_p1 : Bool} {F : List Ent} (mp1 : (p1, w_p1, oStringBuilder f_p1_0 f_p1_1 (vi x2) f_p1_3) ∈ F) : Con Z EL y28 y28b 1 y28r (rmm 1 0 0 12) [(vr p1)] (F) (fun v D' => (v = some (vi x2) ∧ F = D')) := by
  refine Con.of (ls := #[rv p1]) (by decide +kernel) rfl ?_
  refine W.aloadN d19_0 rfl rfl ?_
  refine W.callUp (as := []) 0 [] d19_1 (wq hw 119 rfl) (same_self (by rfl) (by decide) (wq hw 115 rfl) (wq hw 110 rfl) (wq hw 111 rfl)) (wq hw 115 rfl) (wq hw 120 rfl) (by decide) (wq hw 71 rfl) (wq hw 121 rfl) (Hp.ins mp1) (c43_length hw hs (mp1 := mp1)) pd__I rfl rfl rfl rfl (by decide) (fun v D' h => ?_)
  obtain ⟨rfl, rfl⟩ := h
  show W _ _ _ _ _ _ _ _ _ _ _ _ 4 _ [(vi x2)]
  exact W.ireturn d19_4 rfl (Or.inl rfl) rfl (by decide) ⟨rfl, rfl⟩
theorem d17_13 : decode jdk_42_method_150_code 13 = .ok (.istore 4, 2) := by decide +kernel
theorem d17_15 : decode jdk_42_method_150_code 15 = .ok (.aload_n 1, 1) := by decide +kernel
theorem d17_16 : decode jdk_42_method_150_code 16 = .ok (.invokevirtual 1047, 3) := by decide +kernel
theorem d17_19 : decode jdk_42_method_150_code 19 = .ok (.ifCond .eq 22, 3) := by decide +kernel
theorem d17_22 : decode jdk_42_method_150_code 22 = .ok (.aload_n 0, 1) := by decide +kernel
theorem d17_23 : decode jdk_42_method_150_code 23 = .ok (.iconst 0, 1) := by decide +kernel
theorem d17_24 : decode jdk_42_method_150_code 24 = .ok (.putfield 15, 3) := by decide +kernel
theorem d17_27 : decode jdk_42_method_150_code 27 = .ok (.aload_n 0, 1) := by decide +kernel
theorem d17_28 : decode jdk_42_method_150_code 28 = .ok (.aload_n 3, 1) := by decide +kernel
theorem d17_29 : decode jdk_42_method_150_code 29 = .ok (.iconst 0, 1) := by decide +kernel
theorem d17_30 : decode jdk_42_method_150_code 30 = .ok (.iload 4, 2) := by decide +kernel
theorem d17_32 : decode jdk_42_method_150_code 32 = .ok (.invokestatic 54, 3) := by decide +kernel
theorem d22_0 : decode jdk_65_method_132_code 0 = .ok (.iload_n 1, 1) := by decide +kernel
theorem d22_1 : decode jdk_65_method_132_code 1 = .ok (.ifCond .ne 9, 3) := by decide +kernel
theorem d22_4 : decode jdk_65_method_132_code 4 = .ok (.iload_n 2, 1) := by decide +kernel
theorem d22_5 : decode jdk_65_method_132_code 5 = .ok (.aload_n 0, 1) := by decide +kernel
theorem d22_6 : decode jdk_65_method_132_code 6 = .ok (.arraylength, 1) := by decide +kernel
theorem d22_7 : decode jdk_65_method_132_code 7 = .ok (.if_icmp .eq 10, 3) := by decide +kernel
theorem d22_17 : decode jdk_65_method_132_code 17 = .ok (.aload_n 0, 1) := by decide +kernel
theorem d22_18 : decode jdk_65_method_132_code 18 = .ok (.invokevirtual 310, 3) := by decide +kernel
theorem d22_21 : decode jdk_65_method_132_code 21 = .ok (.checkcast 311, 3) := by decide +kernel
theorem d22_24 : decode jdk_65_method_132_code 24 = .ok (.areturn, 1) := by decide +kernel
abbrev y29 : MethodName := ⟨"java/util/Arrays", "copyOfRange", "([BII)[B"⟩
abbrev y29b : ByteArray := jdk_65_method_132_code
abbrev y29r : Option Jvm.ClassFile.FieldType := (Option.some (Jvm.ClassFile.FieldType.array Jvm.ClassFile.FieldType.byte))
theorem c44_copyOfRange {Z a0} (hw : HW a0 Z) (hs : SF Z) {p1 : Addr} {x1 : Int32} (hx1 : 0 ≤ x1.toInt ∧ x1.toInt ≤ 255) {x2 : Int32} (hx2 : 0 ≤ x2.toInt ∧ x2.toInt ≤ 255) {x3 : Int32} (hx3 : 0 ≤ x3.toInt ∧ x3.toInt ≤ 255) {w_p1 : Bool} {F : List Ent} (mp1 : (p1, w_p1, ar "[B" .byte [(vi x1.toInt8.toInt32), (vi x2.toInt8.toInt32), (vi x3.toInt8.toInt32)]) ∈ F) : Con Z EL y29 y29b 3 y29r (rmm 1 1 3 14) [(vr p1), (vi 0), (vi 3)] (F) (fun v D' => (∃ a1 : Addr, v = some (vr a1) ∧ (a1, true, ar "[B" .byte [(vi x1.toInt8.toInt32), (vi x2.toInt8.toInt32), (vi x3.toInt8.toInt32)]) :: F = D')) := by
  refine Con.of (ls := #[rv p1, iv 0, iv 3]) (by decide +kernel) rfl ?_
  refine W.iloadN d22_0 rfl ?_
  refine W.ifN d22_1 (n_ne (by decide)) ?_
  refine W.iloadN d22_4 rfl ?_
  refine W.aloadN d22_5 rfl rfl ?_
  refine W.alen (3) d22_6 mp1 rfl ?_
  refine W.icmpY 17 d22_7 (y_eq (by decide)) (by decide) ?_
  refine W.aloadN d22_17 rfl rfl ?_
  refine W.clone 0 3 d22_18 (wq hw 133 rfl) (wq hw 134 rfl) (wq hw 138 rfl) (wq hw 136 rfl) (wq hw 137 rfl) (wq hw 139 rfl) mp1 (by decide) rfl rfl rfl (by decide) (fun a1 => ?_)
  show W _ _ _ _ _ _ _ _ _ _ _ _ 21 _ [(vr a1)]
  refine W.castY d22_21 (wq hw 140 rfl) (Hp.insA m0 (by decide)) ?_
  exact W.areturn d22_24 rfl rfl rfl (by decide) ⟨a1, rfl, rfl⟩
theorem pd__BII__B : parseMethodDescriptor "([BII)[B" = some ⟨[(.array .byte), .int, .int], some (.array .byte)⟩ := by decide +kernel
theorem d17_35 : decode jdk_42_method_150_code 35 = .ok (.putfield 9, 3) := by decide +kernel
theorem d17_38 : decode jdk_42_method_150_code 38 = .ok (.goto 59, 3) := by decide +kernel
theorem d17_97 : decode jdk_42_method_150_code 97 = .ok (.return_, 1) := by decide +kernel
abbrev y30 : MethodName := ⟨"java/lang/String", "<init>", "(Ljava/lang/AbstractStringBuilder;Ljava/lang/Void;)V"⟩
abbrev y30b : ByteArray := jdk_42_method_150_code
abbrev y30r : Option Jvm.ClassFile.FieldType := (Option.none : Option Jvm.ClassFile.FieldType)
theorem c40_init {Z a0} (hw : HW a0 Z) (hs : SF Z) {p1 p2 p3 : Addr} {x1 : Int32} (hx1 : 0 ≤ x1.toInt ∧ x1.toInt ≤ 255) {x2 : Int32} (hx2 : 0 ≤ x2.toInt ∧ x2.toInt ≤ 255) {x3 : Int32} (hx3 : 0 ≤ x3.toInt ∧ x3.toInt ≤ 255) {f_p2_3 : Value} {w_p2 : Bool} {w_p3 : Bool} {F : List Ent} (mp2 : (p2, w_p2, oStringBuilder (vr p3) (vi 0) (vi 3) f_p2_3) ∈ F) (mp3 : (p3, w_p3, ar "[B" .byte [(vi x1.toInt8.toInt32), (vi x2.toInt8.toInt32), (vi x3.toInt8.toInt32)]) ∈ F) : Con Z EL y30 y30b 5 y30r (rmm 2 1 3 29) [(vr p1), (vr p2), .null] ((p1, true, oString .null (vi 0)) :: F) (fun v D' => (∃ a1 : Addr, v = none ∧ (a1, true, ar "[B" .byte [(vi x1.toInt8.toInt32), (vi x2.toInt8.toInt32), (vi x3.toInt8.toInt32)]) :: (p1, true, oString (vr a1) (vi 0)) :: F = D')) := by
  refine Con.of (ls := #[rv p1, rv p2, .val .null, uu, uu]) (by decide +kernel) rfl ?_
  refine W.aloadN d17_0 rfl rfl ?_
  refine W.initO 0 d17_1 (wq hw 11 rfl) (wq hw 12 rfl) (wq hw 13 rfl) rfl rfl (by decide) ?_
  refine W.aloadN d17_4 rfl rfl ?_
  refine W.callV (as := []) 0 [] d17_5 (wq hw 108 rfl) (wq hw 109 rfl) (wq hw 111 rfl) (wq hw 111 rfl) (wq hw 110 rfl) (wq hw 71 rfl) (wq hw 112 rfl) (Hp.exa (mS mp2)) (c41_getValue hw hs (mp1 := (mS mp2))) (by decide) pd___B rfl rfl rfl rfl (by decide) (fun v D' h => ?_)
  obtain ⟨rfl, rfl⟩ := h
  show W _ _ _ _ _ _ _ _ _ _ _ _ 8 _ [(vr p3)]
  refine W.astoreN (ls' := #[rv p1, rv p2, .val .null, rv p3, uu]) d17_8 rfl rfl ?_
  refine W.aloadN d17_9 rfl rfl ?_
  refine W.callVN (as := []) 0 [] d17_10 (wq hw 113 rfl) (wq hw 114 rfl) (by rfl) (wq hw 110 rfl) (wq hw 111 rfl) (wq hw 116 rfl) (wq hw 117 rfl) (wq hw 52 rfl) (wq hw 118 rfl) (Hp.exa (mS mp2)) (c42_length hw hs (mp1 := (mS mp2))) (by decide) pd__I rfl rfl rfl rfl (by decide) (fun v D' h => ?_)
  obtain ⟨rfl, rfl⟩ := h
  show W _ _ _ _ _ _ _ _ _ _ _ _ 13 _ [(vi 3)]
  refine W.istore (ls' := #[rv p1, rv p2, .val .null, rv p3, iv 3]) d17_13 rfl ?_
  refine W.aloadN d17_15 rfl rfl ?_
  refine W.callV (as := []) 0 [] d17_16 (wq hw 124 rfl) (wq hw 125 rfl) (wq hw 127 rfl) (wq hw 127 rfl) (wq hw 126 rfl) (wq hw 71 rfl) (wq hw 128 rfl) (Hp.exa (mS mp2)) (c30_isLatin1 hw hs (mp1 := (mS mp2))) (by decide) pd__Z rfl rfl rfl rfl (by decide) (fun v D' h => ?_)
  obtain ⟨rfl, rfl⟩ := h
  show W _ _ _ _ _ _ _ _ _ _ _ _ 19 _ [(vi 1)]
  refine W.ifN d17_19 (n_eq (by decide)) ?_
  refine W.aloadN d17_22 rfl rfl ?_
  refine W.iconst (0) d17_23 (by decide) ?_
  refine W.putf (D' := (p1, true, oString .null (vi 0)) :: F) 0 1 d17_24 (wq hw 21 rfl) Via.refl rfl rfl (Or.inr ⟨(wq hw 17 rfl), rfl, rfl⟩) (wq hw 2 rfl) pfB (nw_byte (by decide)) (ft_byte (by decide)) rfl ?_
  refine W.aloadN d17_27 rfl rfl ?_
  refine W.aloadN d17_28 rfl rfl ?_
  refine W.iconst (0) d17_29 (by decide) ?_
  refine W.iload d17_30 rfl ?_
  refine W.callS (as := [(vr p3), (vi 0), (vi 3)]) 1 [(vr p1)] d17_32 (wq hw 129 rfl) (wq hw 130 rfl) (wq hw 131 rfl) (wq hw 132 rfl) (c44_copyOfRange hw hs (hx1 := hx1) (hx2 := hx2) (hx3 := hx3) (mp1 := (mS mp3))) (by decide) pd__BII__B rfl rfl rfl rfl (by decide) (fun v D' h => ?_)
  obtain ⟨a1, rfl, rfl⟩ := h
  show W _ _ _ _ _ _ _ _ _ _ _ _ 35 _ [(vr a1), (vr p1)]
  refine W.putf (D' := (a1, true, ar "[B" .byte [(vi x1.toInt8.toInt32), (vi x2.toInt8.toInt32), (vi x3.toInt8.toInt32)]) :: (p1, true, oString (vr a1) (vi 0)) :: F) 1 0 d17_35 (wq hw 20 rfl) Via.refl rfl rfl (Or.inr ⟨(wq hw 16 rfl), rfl, rfl⟩) (wq hw 2 rfl) pf_B rfl rfl rfl ?_
  refine W.goto 97 d17_38 (by decide) ?_
  exact W.return_ d17_97 rfl (by decide) ⟨a1, rfl, rfl⟩
theorem pd_Ljava_lang_AbstractStringBuilder_Ljava_lang_Void__V : parseMethodDescriptor "(Ljava/lang/AbstractStringBuilder;Ljava/lang/Void;)V" = some ⟨[(.object "java/lang/AbstractStringBuilder"), (.object "java/lang/Void")], none⟩ := by decide +kernel
theorem d16_6 : decode jdk_42_method_53_code 6 = .ok (.return_, 1) := by decide +kernel
abbrev y31 : MethodName := ⟨"java/lang/String", "<init>", "(Ljava/lang/StringBuilder;)V"⟩
abbrev y31b : ByteArray := jdk_42_method_53_code
abbrev y31r : Option Jvm.ClassFile.FieldType := (Option.none : Option Jvm.ClassFile.FieldType)
theorem c39_init {Z a0} (hw : HW a0 Z) (hs : SF Z) {p1 p2 p3 : Addr} {x1 : Int32} (hx1 : 0 ≤ x1.toInt ∧ x1.toInt ≤ 255) {x2 : Int32} (hx2 : 0 ≤ x2.toInt ∧ x2.toInt ≤ 255) {x3 : Int32} (hx3 : 0 ≤ x3.toInt ∧ x3.toInt ≤ 255) {f_p2_3 : Value} {w_p2 : Bool} {w_p3 : Bool} {F : List Ent} (mp2 : (p2, w_p2, oStringBuilder (vr p3) (vi 0) (vi 3) f_p2_3) ∈ F) (mp3 : (p3, w_p3, ar "[B" .byte [(vi x1.toInt8.toInt32), (vi x2.toInt8.toInt32), (vi x3.toInt8.toInt32)]) ∈ F) : Con Z EL y31 y31b 2 y31r (rmm 3 1 3 45) [(vr p1), (vr p2)] ((p1, true, oString .null (vi 0)) :: F) (fun v D' => (∃ a1 : Addr, v = none ∧ (a1, true, ar "[B" .byte [(vi x1.toInt8.toInt32), (vi x2.toInt8.toInt32), (vi x3.toInt8.toInt32)]) :: (p1, true, oString (vr a1) (vi 0)) :: F = D')) := by
  refine Con.of (ls := #[rv p1, rv p2]) (by decide +kernel) rfl ?_
  refine W.aloadN d16_0 rfl rfl ?_
  refine W.aloadN d16_1 rfl rfl ?_
  refine W.aconstNull d16_2 ?_
  refine W.callI (as := [(vr p2), .null]) 0 [] d16_3 rfl (wq hw 105 rfl) (wq hw 106 rfl) (wq hw 3 rfl) (wq hw 107 rfl) (c40_init hw hs (hx1 := hx1) (hx2 := hx2) (hx3 := hx3) (mp2 := mp2) (mp3 := mp3)) (by decide) pd_Ljava_lang_AbstractStringBuilder_Ljava_lang_Void__V rfl rfl rfl rfl (by decide) (fun v D' h => ?_)
  obtain ⟨a1, rfl, rfl⟩ := h
  show W _ _ _ _ _ _ _ _ _ _ _ _ 6 _ []
  exact W.return_ d16_6 rfl (by decide) ⟨a1, rfl, rfl⟩
theorem pd_Ljava_lang_StringBuilder__V : parseMethodDescriptor "(Ljava/lang/StringBuilder;)V" = some ⟨[(.object "java/lang/StringBuilder")], none⟩ := by decide +kernel
theorem d15_8 : decode jdk_67_method_42_code 8 = .ok (.areturn, 1) := by decide +kernel
abbrev y32 : MethodName := ⟨"java/lang/StringBuilder", "toString", "()Ljava/lang/String;"⟩
abbrev y32b : ByteArray := jdk_67_method_42_code
abbrev y32r : Option Jvm.ClassFile.FieldType := (Option.some (Jvm.ClassFile.FieldType.object "java/lang/String"))
theorem c38_toString {Z a0} (hw : HW a0 Z) (hs : SF Z) {p1 p2 : Addr} {x1 : Int32} (hx1 : 0 ≤ x1.toInt ∧ x1.toInt ≤ 255) {x2 : Int32} (hx2 : 0 ≤ x2.toInt ∧ x2.toInt ≤ 255) {x3 : Int32} (hx3 : 0 ≤ x3.toInt ∧ x3.toInt ≤ 255) {f_p1_3 : Value} {w_p1 : Bool} {w_p2 : Bool} {F : List Ent} (mp1 : (p1, w_p1, oStringBuilder (vr p2) (vi 0) (vi 3) f_p1_3) ∈ F) (mp2 : (p2, w_p2, ar "[B" .byte [(vi x1.toInt8.toInt32), (vi x2.toInt8.toInt32), (vi x3.toInt8.toInt32)]) ∈ F) : Con Z EL y32 y32b 1 y32r (rmm 4 2 7 59) [(vr p1)] (F) (fun v D' => (∃ a1 a2 : Addr, v = some (vr a1) ∧ (a2, true, ar "[B" .byte [(vi x1.toInt8.toInt32), (vi x2.toInt8.toInt32), (vi x3.toInt8.toInt32)]) :: (a1, true, oString (vr a2) (vi 0)) :: F = D')) := by
  refine Con.of (ls := #[rv p1]) (by decide +kernel) rfl ?_
  refine W.new d15_0 (wq hw 101 rfl) (wq hw 2 rfl) (wq hw 3 rfl) (laString hw) (by decide) (by decide) (fun a1 => ?_)
  show W _ _ _ _ _ _ _ _ _ _ _ _ 3 _ [(vr a1)]
  refine W.dup d15_3 rfl ?_
  refine W.aloadN d15_4 rfl rfl ?_
  refine W.callI (as := [(vr p1)]) 1 [(vr a1)] d15_5 rfl (wq hw 102 rfl) (wq hw 103 rfl) (wq hw 3 rfl) (wq hw 104 rfl) (c39_init hw hs (hx1 := hx1) (hx2 := hx2) (hx3 := hx3) (mp2 := mp1) (mp3 := mp2)) (by decide) pd_Ljava_lang_StringBuilder__V rfl rfl rfl rfl (by decide) (fun v D' h => ?_)
  obtain ⟨a2, rfl, rfl⟩ := h
  show W _ _ _ _ _ _ _ _ _ _ _ _ 8 _ [(vr a1)]
  exact W.areturn d15_8 rfl rfl rfl (by decide) ⟨a1, a2, rfl, rfl⟩
theorem pd__Ljava_lang_String_ : parseMethodDescriptor "()Ljava/lang/String;" = some ⟨[], some (.object "java/lang/String")⟩ := by decide +kernel
theorem d6_84 : decode prog_12_method_5_code 84 = .ok (.areturn, 1) := by decide +kernel
abbrev y33 : MethodName := ⟨"com/example/rochester/rochester/JdqlLexer$Token", "lowerCase", "()Ljava/lang/String;"⟩
abbrev y33b : ByteArray := prog_12_method_5_code
abbrev y33r : Option Jvm.ClassFile.FieldType := (Option.some (Jvm.ClassFile.FieldType.object "java/lang/String"))
theorem c18_lowerCase {Z a0} (hw : HW a0 Z) (hs : SF Z) {p1 p2 p3 : Addr} {x2 : Int32} (hx2 : 0 ≤ x2.toInt ∧ x2.toInt ≤ 255) {x3 : Int32} (hx3 : 0 ≤ x3.toInt ∧ x3.toInt ≤ 255) {x4 : Int32} (hx4 : 0 ≤ x4.toInt ∧ x4.toInt ≤ 255) {f_p1_0 f_p1_2 f_p1_3 : Value} {w_p1 : Bool} {w_p2 : Bool} {w_p3 : Bool} {ad_p3 : String} {F : List Ent} (mp1 : (p1, w_p1, oJdqlLexer_Token f_p1_0 (vr p2) f_p1_2 f_p1_3) ∈ F) (mp2 : (p2, w_p2, oString (vr p3) (vi 0)) ∈ F) (mp3 : (p3, w_p3, ar ad_p3 .byte [(vi x2.toInt8.toInt32), (vi x3.toInt8.toInt32), (vi x4.toInt8.toInt32)]) ∈ F) : Con Z EL y33 y33b 6 y33r (rmm 5 5 17 71) [(vr p1)] (F) (fun v D' => (∃ a10 a11 : Addr, v = some (vr a10) ∧ (a11, true, ar "[B" .byte [(vi (lc x2).toInt8.toInt32), (vi (lc x3).toInt8.toInt32), (vi (lc x4).toInt8.toInt32)]) :: (a10, true, oString (vr a11) (vi 0)) :: F = D')) := by
  refine Con.of (ls := #[rv p1, uu, uu, uu, uu, uu]) (by decide +kernel) rfl ?_
  refine W.new d6_0 (wq hw 50 rfl) (wq hw 51 rfl) (wq hw 52 rfl) (laStringBuilder hw) (by decide) (by decide) (fun a1 => ?_)
  show W _ _ _ _ _ _ _ _ _ _ _ _ 3 _ [(vr a1)]
  refine W.dup d6_3 rfl ?_
  refine W.aloadN d6_4 rfl rfl ?_
  refine W.getf d6_5 (wq hw 39 rfl) Via.refl (mS mp1) m1 ?_
  refine W.callV (as := []) 2 [(vr a1), (vr a1)] d6_8 (wq hw 53 rfl) (wq hw 54 rfl) (wq hw 56 rfl) (wq hw 56 rfl) (wq hw 55 rfl) (wq hw 3 rfl) (wq hw 57 rfl) (Hp.exa (mS mp2)) (c19_length hw hs (hvs_p2 := rfl) (mp1 := (mS mp2)) (mp2 := (mS mp3))) (by decide) pd__I rfl rfl rfl rfl (by decide) (fun v D' h => ?_)
  obtain ⟨rfl, rfl⟩ := h
  show W _ _ _ _ _ _ _ _ _ _ _ _ 11 _ [(vi 3), (vr a1), (vr a1)]
  refine W.callI (as := [(vi 3)]) 1 [(vr a1)] d6_11 rfl (wq hw 64 rfl) (wq hw 65 rfl) (wq hw 52 rfl) (wq hw 66 rfl) (c21_init hw hs) (by decide) pd_I_V rfl rfl rfl rfl (by decide) (fun v D' h => ?_)
  obtain ⟨a2, rfl, rfl⟩ := h
  show W _ _ _ _ _ _ _ _ _ _ _ _ 14 _ [(vr a1)]
  refine W.astoreN (ls' := #[rv p1, rv a1, uu, uu, uu, uu]) d6_14 rfl rfl ?_
  refine W.aloadN d6_15 rfl rfl ?_
  refine W.getf d6_16 (wq hw 39 rfl) Via.refl (mS (mS mp1)) m1 ?_
  refine W.callV (as := []) 0 [] d6_19 (wq hw 79 rfl) (wq hw 80 rfl) (wq hw 82 rfl) (wq hw 82 rfl) (wq hw 81 rfl) (wq hw 3 rfl) (wq hw 83 rfl) (Hp.exa (mS (mS mp2))) (c23_toCharArray hw hs (hx1 := hx2) (hx2 := hx3) (hx3 := hx4) (mp1 := (mS (mS mp2))) (mp2 := (mS (mS mp3)))) (by decide) pd___C rfl rfl rfl rfl (by decide) (fun v D' h => ?_)
  obtain ⟨a3, rfl, rfl⟩ := h
  show W _ _ _ _ _ _ _ _ _ _ _ _ 22 _ [(vr a3)]
  refine W.astoreN (ls' := #[rv p1, rv a1, rv a3, uu, uu, uu]) d6_22 rfl rfl ?_
  refine W.aloadN d6_23 rfl rfl ?_
  refine W.alen (3) d6_24 m0 rfl ?_
  refine W.istoreN (ls' := #[rv p1, rv a1, rv a3, iv 3, uu, uu]) d6_25 rfl ?_
  refine W.iconst (0) d6_26 (by decide) ?_
  refine W.istore (ls' := #[rv p1, rv a1, rv a3, iv 3, iv 0, uu]) d6_27 rfl ?_
  refine W.iload d6_29 rfl ?_
  refine W.iloadN d6_31 rfl ?_
  refine W.icmpN d6_32 (n_ge (by decide)) ?_
  refine W.aloadN d6_35 rfl rfl ?_
  refine W.iload d6_36 rfl ?_
  refine W.caload 0 d6_38 m0 ix0 rfl ?_
  refine W.istore (ls' := #[rv p1, rv a1, rv a3, iv 3, iv 0, iv x2]) d6_39 rfl ?_
  refine W.aloadN d6_41 rfl rfl ?_
  have K5 : W Z EL (rmm 5 5 17 71) "com/example/rochester/rochester/JdqlLexer$Token" "lowerCase" prog_12_method_5_code 6 (Option.some (Jvm.ClassFile.FieldType.object "java/lang/String")) (fun v D' => (∃ a10 a11 : Addr, v = some (vr a10) ∧ (a11, true, ar "[B" .byte [(vi (lc x2).toInt8.toInt32), (vi (lc x3).toInt8.toInt32), (vi (lc x4).toInt8.toInt32)]) :: (a10, true, oString (vr a11) (vi 0)) :: F = D')) ((a3, true, ar "[C" .char [(vi x2), (vi x3), (vi x4)]) :: (a2, true, ar "[B" .byte [(vi 0), (vi 0), (vi 0)]) :: (a1, true, oStringBuilder (vr a2) (vi 0) (vi 0) (vi 0)) :: F) 3 10 70 #[rv p1, rv a1, rv a3, iv 3, iv 0, iv x2] [(vi (lc x2)), (vr a1)] := by
   refine W.front 1 (D' := (a2, true, ar "[B" .byte [(vi 0), (vi 0), (vi 0)]) :: (a3, true, ar "[C" .char [(vi x2), (vi x3), (vi x4)]) :: (a1, true, oStringBuilder (vr a2) (vi 0) (vi 0) (vi 0)) :: F) rfl rfl ?_
   refine W.front 2 (D' := (a1, true, oStringBuilder (vr a2) (vi 0) (vi 0) (vi 0)) :: (a2, true, ar "[B" .byte [(vi 0), (vi 0), (vi 0)]) :: (a3, true, ar "[C" .char [(vi x2), (vi x3), (vi x4)]) :: F) rfl rfl ?_
   refine W.callV (as := [(vi (lc x2))]) 0 [] d6_70 (wq hw 153 rfl) (wq hw 154 rfl) (wq hw 156 rfl) (wq hw 156 rfl) (wq hw 155 rfl) (wq hw 52 rfl) (wq hw 157 rfl) (Hp.exa m0) (c27_append hw hs (hx1 := (by have := a_lc x2; omega))) (by decide) pd_C_Ljava_lang_StringBuilder_ rfl rfl rfl rfl (by decide) (fun v D' h => ?_)
   obtain ⟨rfl, rfl⟩ := h
   show W _ _ _ _ _ _ _ _ _ _ _ _ 73 _ [(vr a1)]
   refine W.popv d6_73 rfl ?_
   refine W.iincK (ls' := #[rv p1, rv a1, rv a3, iv 3, iv 1, iv x2]) (1) (1 : Int32) d6_74 (by decide) rfl (by decide) rfl ?_
   refine W.goto 29 d6_77 (by decide) ?_
   refine W.iload d6_29 rfl ?_
   refine W.iloadN d6_31 rfl ?_
   refine W.icmpN d6_32 (n_ge (by decide)) ?_
   refine W.aloadN d6_35 rfl rfl ?_
   refine W.iload d6_36 rfl ?_
   refine W.caload 1 d6_38 m2 ix1 rfl ?_
   refine W.istore (ls' := #[rv p1, rv a1, rv a3, iv 3, iv 1, iv x3]) d6_39 rfl ?_
   refine W.aloadN d6_41 rfl rfl ?_
   have K7 : W Z EL (rmm 5 5 17 71) "com/example/rochester/rochester/JdqlLexer$Token" "lowerCase" prog_12_method_5_code 6 (Option.some (Jvm.ClassFile.FieldType.object "java/lang/String")) (fun v D' => (∃ a10 a11 : Addr, v = some (vr a10) ∧ (a11, true, ar "[B" .byte [(vi (lc x2).toInt8.toInt32), (vi (lc x3).toInt8.toInt32), (vi (lc x4).toInt8.toInt32)]) :: (a10, true, oString (vr a11) (vi 0)) :: F = D')) ((a1, true, oStringBuilder (vr a2) (vi 0) (vi 1) (vi 0)) :: (a2, true, ar "[B" .byte [(vi (lc x2).toInt8.toInt32), (vi 0), (vi 0)]) :: (a3, true, ar "[C" .char [(vi x2), (vi x3), (vi x4)]) :: F) 3 10 70 #[rv p1, rv a1, rv a3, iv 3, iv 1, iv x3] [(vi (lc x3)), (vr a1)] := by
    refine W.callV (as := [(vi (lc x3))]) 0 [] d6_70 (wq hw 153 rfl) (wq hw 154 rfl) (wq hw 156 rfl) (wq hw 156 rfl) (wq hw 155 rfl) (wq hw 52 rfl) (wq hw 157 rfl) (Hp.exa m0) (c32_append hw hs (hx1 := (by have := a_lc x3; omega))) (by decide) pd_C_Ljava_lang_StringBuilder_ rfl rfl rfl rfl (by decide) (fun v D' h => ?_)
    obtain ⟨rfl, rfl⟩ := h
    show W _ _ _ _ _ _ _ _ _ _ _ _ 73 _ [(vr a1)]
    refine W.popv d6_73 rfl ?_
    refine W.iincK (ls' := #[rv p1, rv a1, rv a3, iv 3, iv 2, iv x3]) (1) (2 : Int32) d6_74 (by decide) rfl (by decide) rfl ?_
    refine W.goto 29 d6_77 (by decide) ?_
    refine W.iload d6_29 rfl ?_
    refine W.iloadN d6_31 rfl ?_
    refine W.icmpN d6_32 (n_ge (by decide)) ?_
    refine W.aloadN d6_35 rfl rfl ?_
    refine W.iload d6_36 rfl ?_
    refine W.caload 2 d6_38 m2 ix2 rfl ?_
    refine W.istore (ls' := #[rv p1, rv a1, rv a3, iv 3, iv 2, iv x4]) d6_39 rfl ?_
    refine W.aloadN d6_41 rfl rfl ?_
    have K9 : W Z EL (rmm 5 5 17 71) "com/example/rochester/rochester/JdqlLexer$Token" "lowerCase" prog_12_method_5_code 6 (Option.some (Jvm.ClassFile.FieldType.object "java/lang/String")) (fun v D' => (∃ a10 a11 : Addr, v = some (vr a10) ∧ (a11, true, ar "[B" .byte [(vi (lc x2).toInt8.toInt32), (vi (lc x3).toInt8.toInt32), (vi (lc x4).toInt8.toInt32)]) :: (a10, true, oString (vr a11) (vi 0)) :: F = D')) ((a1, true, oStringBuilder (vr a2) (vi 0) (vi 2) (vi 0)) :: (a2, true, ar "[B" .byte [(vi (lc x2).toInt8.toInt32), (vi (lc x3).toInt8.toInt32), (vi 0)]) :: (a3, true, ar "[C" .char [(vi x2), (vi x3), (vi x4)]) :: F) 3 10 70 #[rv p1, rv a1, rv a3, iv 3, iv 2, iv x4] [(vi (lc x4)), (vr a1)] := by
     refine W.callV (as := [(vi (lc x4))]) 0 [] d6_70 (wq hw 153 rfl) (wq hw 154 rfl) (wq hw 156 rfl) (wq hw 156 rfl) (wq hw 155 rfl) (wq hw 52 rfl) (wq hw 157 rfl) (Hp.exa m0) (c35_append hw hs (hx1 := (by have := a_lc x4; omega))) (by decide) pd_C_Ljava_lang_StringBuilder_ rfl rfl rfl rfl (by decide) (fun v D' h => ?_)
     obtain ⟨rfl, rfl⟩ := h
     show W _ _ _ _ _ _ _ _ _ _ _ _ 73 _ [(vr a1)]
     refine W.popv d6_73 rfl ?_
     refine W.iincK (ls' := #[rv p1, rv a1, rv a3, iv 3, iv 3, iv x4]) (1) (3 : Int32) d6_74 (by decide) rfl (by decide) rfl ?_
     refine W.goto 29 d6_77 (by decide) ?_
     refine W.iload d6_29 rfl ?_
     refine W.iloadN d6_31 rfl ?_
     refine W.icmpY 80 d6_32 (y_ge (by decide)) (by decide) ?_
     refine W.aloadN d6_80 rfl rfl ?_
     refine W.callV (as := []) 0 [] d6_81 (wq hw 96 rfl) (wq hw 97 rfl) (wq hw 99 rfl) (wq hw 99 rfl) (wq hw 98 rfl) (wq hw 52 rfl) (wq hw 100 rfl) (Hp.exa m0) (c38_toString hw hs (hx1 := (by have := a_lc x2; omega)) (hx2 := (by have := a_lc x3; omega)) (hx3 := (by have := a_lc x4; omega)) (mp1 := m0) (mp2 := m1)) (by decide) pd__Ljava_lang_String_ rfl rfl rfl rfl (by decide) (fun v D' h => ?_)
     obtain ⟨a10, a11, rfl, rfl⟩ := h
     show W _ _ _ _ _ _ _ _ _ _ _ _ 84 _ [(vr a10)]
     refine W.dropAt 2 (D' := (a11, true, ar "[B" .byte [(vi (lc x2).toInt8.toInt32), (vi (lc x3).toInt8.toInt32), (vi (lc x4).toInt8.toInt32)]) :: (a10, true, oString (vr a11) (vi 0)) :: (a2, true, ar "[B" .byte [(vi (lc x2).toInt8.toInt32), (vi (lc x3).toInt8.toInt32), (vi (lc x4).toInt8.toInt32)]) :: (a3, true, ar "[C" .char [(vi x2), (vi x3), (vi x4)]) :: F) rfl ?_
     refine W.dropAt 2 (D' := (a11, true, ar "[B" .byte [(vi (lc x2).toInt8.toInt32), (vi (lc x3).toInt8.toInt32), (vi (lc x4).toInt8.toInt32)]) :: (a10, true, oString (vr a11) (vi 0)) :: (a3, true, ar "[C" .char [(vi x2), (vi x3), (vi x4)]) :: F) rfl ?_
     refine W.dropAt 2 (D' := (a11, true, ar "[B" .byte [(vi (lc x2).toInt8.toInt32), (vi (lc x3).toInt8.toInt32), (vi (lc x4).toInt8.toInt32)]) :: (a10, true, oString (vr a11) (vi 0)) :: F) rfl ?_
     exact W.areturn d6_84 rfl rfl rfl (by decide) ⟨a10, a11, rfl, rfl⟩
    refine W.iload d6_42 rfl ?_
    refine W.bipush (65) d6_44 (by decide) ?_
    refine W.icmp 68 d6_46 (by decide) (fun h1 => ?_) (fun h1 => ?_)
    ·
     have ih1 := t_lt h1
     refine W.iload d6_68 rfl ?_
     refine W.top (y := (lc x4)) (lc_of (by have := q65; omega)) ?_
     exact W.mono (by decide) (by decide) (K9  )
    ·
     have ih1 := f_lt h1
     refine W.iload d6_49 rfl ?_
     refine W.bipush (90) d6_51 (by decide) ?_
     refine W.icmp 68 d6_53 (by decide) (fun h2 => ?_) (fun h2 => ?_)
     ·
      have ih2 := t_gt h2
      refine W.iload d6_68 rfl ?_
      refine W.top (y := (lc x4)) (lc_of (by have := q65; have := q90; omega)) ?_
      exact W.mono (by decide) (by decide) (K9  )
     ·
      have ih2 := f_gt h2
      refine W.iload d6_56 rfl ?_
      refine W.bipush (65) d6_58 (by decide) ?_
      refine W.isub d6_60 ?_
      refine W.bipush (97) d6_61 (by decide) ?_
      refine W.iadd d6_63 ?_
      refine W.i2cK ((x4 - (65 : Int32)) + (97 : Int32)) d6_64 (z_i2c (by have := q65; have := a_sub x4 (65 : Int32); have := q97; have := a_add (x4 - (65 : Int32)) (97 : Int32); have := q90; omega)) ?_
      refine W.goto 70 d6_65 (by decide) ?_
      refine W.top (y := (lc x4)) (lc_of (by have := q65; have := a_sub x4 (65 : Int32); have := q97; have := a_add (x4 - (65 : Int32)) (97 : Int32); have := q90; omega)) ?_
      exact W.mono (by decide) (by decide) (K9  )
   refine W.iload d6_42 rfl ?_
   refine W.bipush (65) d6_44 (by decide) ?_
   refine W.icmp 68 d6_46 (by decide) (fun h3 => ?_) (fun h3 => ?_)
   ·
    have ih3 := t_lt h3
    refine W.iload d6_68 rfl ?_
    refine W.top (y := (lc x3)) (lc_of (by have := q65; omega)) ?_
    exact W.mono (by decide) (by decide) (K7  )
   ·
    have ih3 := f_lt h3
    refine W.iload d6_49 rfl ?_
    refine W.bipush (90) d6_51 (by decide) ?_
    refine W.icmp 68 d6_53 (by decide) (fun h4 => ?_) (fun h4 => ?_)
    ·
     have ih4 := t_gt h4
     refine W.iload d6_68 rfl ?_
     refine W.top (y := (lc x3)) (lc_of (by have := q65; have := q90; omega)) ?_
     exact W.mono (by decide) (by decide) (K7  )
    ·
     have ih4 := f_gt h4
     refine W.iload d6_56 rfl ?_
     refine W.bipush (65) d6_58 (by decide) ?_
     refine W.isub d6_60 ?_
     refine W.bipush (97) d6_61 (by decide) ?_
     refine W.iadd d6_63 ?_
     refine W.i2cK ((x3 - (65 : Int32)) + (97 : Int32)) d6_64 (z_i2c (by have := q65; have := a_sub x3 (65 : Int32); have := q97; have := a_add (x3 - (65 : Int32)) (97 : Int32); have := q90; omega)) ?_
     refine W.goto 70 d6_65 (by decide) ?_
     refine W.top (y := (lc x3)) (lc_of (by have := q65; have := a_sub x3 (65 : Int32); have := q97; have := a_add (x3 - (65 : Int32)) (97 : Int32); have := q90; omega)) ?_
     exact W.mono (by decide) (by decide) (K7  )
  refine W.iload d6_42 rfl ?_
  refine W.bipush (65) d6_44 (by decide) ?_
  refine W.icmp 68 d6_46 (by decide) (fun h5 => ?_) (fun h5 => ?_)
  ·
   have ih5 := t_lt h5
   refine W.iload d6_68 rfl ?_
   refine W.top (y := (lc x2)) (lc_of (by have := q65; omega)) ?_
   exact W.mono (by decide) (by decide) (K5  )
  ·
   have ih5 := f_lt h5
   refine W.iload d6_49 rfl ?_
   refine W.bipush (90) d6_51 (by decide) ?_
   refine W.icmp 68 d6_53 (by decide) (fun h6 => ?_) (fun h6 => ?_)
   ·
    have ih6 := t_gt h6
    refine W.iload d6_68 rfl ?_
    refine W.top (y := (lc x2)) (lc_of (by have := q65; have := q90; omega)) ?_
    exact W.mono (by decide) (by decide) (K5  )
   ·
    have ih6 := f_gt h6
    refine W.iload d6_56 rfl ?_
    refine W.bipush (65) d6_58 (by decide) ?_
    refine W.isub d6_60 ?_
    refine W.bipush (97) d6_61 (by decide) ?_
    refine W.iadd d6_63 ?_
    refine W.i2cK ((x2 - (65 : Int32)) + (97 : Int32)) d6_64 (z_i2c (by have := q65; have := a_sub x2 (65 : Int32); have := q97; have := a_add (x2 - (65 : Int32)) (97 : Int32); have := q90; omega)) ?_
    refine W.goto 70 d6_65 (by decide) ?_
    refine W.top (y := (lc x2)) (lc_of (by have := q65; have := a_sub x2 (65 : Int32); have := q97; have := a_add (x2 - (65 : Int32)) (97 : Int32); have := q90; omega)) ?_
    exact W.mono (by decide) (by decide) (K5  )
theorem d30_0 : decode jdk_42_method_56_code 0 = .ok (.aload_n 0, 1) := by decide +kernel
theorem d30_1 : decode jdk_42_method_56_code 1 = .ok (.invokevirtual 492, 3) := by decide +kernel
theorem d30_4 : decode jdk_42_method_56_code 4 = .ok (.ifCond .eq 12, 3) := by decide +kernel
theorem d30_7 : decode jdk_42_method_56_code 7 = .ok (.aload_n 0, 1) := by decide +kernel
theorem d30_8 : decode jdk_42_method_56_code 8 = .ok (.getfield 9, 3) := by decide +kernel
theorem d30_11 : decode jdk_42_method_56_code 11 = .ok (.iload_n 1, 1) := by decide +kernel
theorem d30_12 : decode jdk_42_method_56_code 12 = .ok (.invokestatic 495, 3) := by decide +kernel
theorem d31_0 : decode jdk_43_method_2_code 0 = .ok (.iload_n 1, 1) := by decide +kernel
theorem d31_1 : decode jdk_43_method_2_code 1 = .ok (.aload_n 0, 1) := by decide +kernel
theorem d31_2 : decode jdk_43_method_2_code 2 = .ok (.arraylength, 1) := by decide +kernel
theorem d31_3 : decode jdk_43_method_2_code 3 = .ok (.invokestatic 9, 3) := by decide +kernel
theorem d32_0 : decode jdk_42_method_155_code 0 = .ok (.iload_n 0, 1) := by decide +kernel
theorem d32_1 : decode jdk_42_method_155_code 1 = .ok (.iload_n 1, 1) := by decide +kernel
theorem d32_2 : decode jdk_42_method_155_code 2 = .ok (.getstatic 1053, 3) := by decide +kernel
theorem d32_5 : decode jdk_42_method_155_code 5 = .ok (.invokestatic 1059, 3) := by decide +kernel
theorem d33_0 : decode jdk_41_method_11_code 0 = .ok (.iload_n 0, 1) := by decide +kernel
theorem d33_1 : decode jdk_41_method_11_code 1 = .ok (.ifCond .lt 8, 3) := by decide +kernel
theorem d33_4 : decode jdk_41_method_11_code 4 = .ok (.iload_n 0, 1) := by decide +kernel
theorem d33_5 : decode jdk_41_method_11_code 5 = .ok (.iload_n 1, 1) := by decide +kernel
theorem d33_6 : decode jdk_41_method_11_code 6 = .ok (.if_icmp .lt 10, 3) := by decide +kernel
theorem d33_16 : decode jdk_41_method_11_code 16 = .ok (.iload_n 0, 1) := by decide +kernel
theorem d33_17 : decode jdk_41_method_11_code 17 = .ok (.ireturn, 1) := by decide +kernel
abbrev y34 : MethodName := ⟨"jdk/internal/util/Preconditions", "checkIndex", "(IILjava/util/function/BiFunction;)I"⟩
abbrev y34b : ByteArray := jdk_41_method_11_code
abbrev y34r : Option Jvm.ClassFile.FieldType := (Option.some Jvm.ClassFile.FieldType.int)
theorem c48_checkIndex {Z a0} (hw : HW a0 Z) (hs : SF Z) {x1 : Int32} (hx1 : 0 ≤ x1.toInt ∧ x1.toInt ≤ 2147483647) {x2 : Int32} (hr0 : (0 : Int32).toInt ≤ x1.toInt) (hr1 : x1.toInt < x2.toInt) {F : List Ent} : Con Z EL y34 y34b 3 y34r (rmm 0 0 0 0) [(vi x1), (vi x2), (sfv Z)] (F) (fun v D' => (v = some (vi x1) ∧ F = D')) := by
  refine Con.of (ls := #[iv x1, iv x2, .val (sfv Z)]) (by decide +kernel) (hent_of (ld1 rfl (ld1 rfl (ld1 (XT.cat1 hs.2.2.1) ld0))) rfl) ?_
  refine W.iloadN d33_0 rfl ?_
  refine W.ifN d33_1 (n_lt (by have := q0; have := rng32 x2; omega)) ?_
  refine W.iloadN d33_4 rfl ?_
  refine W.iloadN d33_5 rfl ?_
  refine W.icmpY 16 d33_6 (y_lt (by have := rng32 x2; have := q0; omega)) (by decide) ?_
  refine W.iloadN d33_16 rfl ?_
  exact W.ireturn d33_17 rfl (Or.inl rfl) rfl (by decide) ⟨rfl, rfl⟩
theorem pd_IILjava_util_function_BiFunction__I : parseMethodDescriptor "(IILjava/util/function/BiFunction;)I" = some ⟨[.int, .int, (.object "java/util/function/BiFunction")], some .int⟩ := by decide +kernel
theorem d32_8 : decode jdk_42_method_155_code 8 = .ok (.pop, 1) := by decide +kernel
theorem d32_9 : decode jdk_42_method_155_code 9 = .ok (.return_, 1) := by decide +kernel
abbrev y35 : MethodName := ⟨"java/lang/String", "checkIndex", "(II)V"⟩
abbrev y35b : ByteArray := jdk_42_method_155_code
abbrev y35r : Option Jvm.ClassFile.FieldType := (Option.none : Option Jvm.ClassFile.FieldType)
theorem c47_checkIndex {Z a0} (hw : HW a0 Z) (hs : SF Z) {x1 : Int32} {x2 : Int32} (hr0 : (0 : Int32).toInt ≤ x1.toInt) (hr1 : x1.toInt < x2.toInt) {F : List Ent} : Con Z EL y35 y35b 2 y35r (rmm 1 0 0 14) [(vi x1), (vi x2)] (F) (fun v D' => (v = none ∧ F = D')) := by
  refine Con.of (ls := #[iv x1, iv x2]) (by decide +kernel) rfl ?_
  refine W.iloadN d32_0 rfl ?_
  refine W.iloadN d32_1 rfl ?_
  refine W.gets d32_2 (wq hw 182 rfl) Via.refl hs.2.2.2.1 ?_
  refine W.callS (as := [(vi x1), (vi x2), (sfv Z)]) 0 [] d32_5 (wq hw 184 rfl) (wq hw 185 rfl) (wq hw 183 rfl) (wq hw 186 rfl) (c48_checkIndex hw hs (hx1 := (by have := rng32 x1; have := q0; have := rng32 x2; omega)) (hr0 := by have := q0; have := rng32 x1; have := rng32 x2; omega) (hr1 := by have := rng32 x1; have := rng32 x2; have := q0; omega)) (by decide) pd_IILjava_util_function_BiFunction__I rfl rfl rfl rfl (by decide) (fun v D' h => ?_)
  obtain ⟨rfl, rfl⟩ := h
  show W _ _ _ _ _ _ _ _ _ _ _ _ 8 _ [(vi x1)]
  refine W.popv d32_8 rfl ?_
  exact W.return_ d32_9 rfl (by decide) ⟨rfl, rfl⟩
theorem pd_II_V : parseMethodDescriptor "(II)V" = some ⟨[.int, .int], none⟩ := by decide +kernel
theorem d31_6 : decode jdk_43_method_2_code 6 = .ok (.aload_n 0, 1) := by decide +kernel
theorem d31_7 : decode jdk_43_method_2_code 7 = .ok (.iload_n 1, 1) := by decide +kernel
theorem d31_8 : decode jdk_43_method_2_code 8 = .ok (.baload, 1) := by decide +kernel
theorem d31_9 : decode jdk_43_method_2_code 9 = .ok (.sipush 255, 3) := by decide +kernel
theorem d31_12 : decode jdk_43_method_2_code 12 = .ok (.iand, 1) := by decide +kernel
theorem d31_13 : decode jdk_43_method_2_code 13 = .ok (.i2c, 1) := by decide +kernel
theorem d31_14 : decode jdk_43_method_2_code 14 = .ok (.ireturn, 1) := by decide +kernel
abbrev y36 : MethodName := ⟨"java/lang/StringLatin1", "charAt", "([BI)C"⟩
abbrev y36b : ByteArray := jdk_43_method_2_code
abbrev y36r : Option Jvm.ClassFile.FieldType := (Option.some Jvm.ClassFile.FieldType.char)
theorem c46_charAt {Z a0} (hw : HW a0 Z) (hs : SF Z) {p1 : Addr} {x1 : Int32} (hx1 : 0 ≤ x1.toInt ∧ x1.toInt ≤ 255) {e_p1_1 e_p1_2 : Value} {w_p1 : Bool} {ad_p1 : String} {F : List Ent} (mp1 : (p1, w_p1, ar ad_p1 .byte [(vi x1.toInt8.toInt32), e_p1_1, e_p1_2]) ∈ F) : Con Z EL y36 y36b 2 y36r (rmm 2 0 0 27) [(vr p1), (vi 0)] (F) (fun v D' => (v = some (vi x1) ∧ F = D')) := by
  refine Con.of (ls := #[rv p1, iv 0]) (by decide +kernel) rfl ?_
  refine W.iloadN d31_0 rfl ?_
  refine W.aloadN d31_1 rfl rfl ?_
  refine W.alen (3) d31_2 mp1 rfl ?_
  refine W.callS (as := [(vi 0), (vi 3)]) 0 [] d31_3 (wq hw 179 rfl) (wq hw 180 rfl) (wq hw 3 rfl) (wq hw 181 rfl) (c47_checkIndex hw hs (hr0 := by have := q0; omega) (hr1 := by have := q0; have := q3; omega)) (by decide) pd_II_V rfl rfl rfl rfl (by decide) (fun v D' h => ?_)
  obtain ⟨rfl, rfl⟩ := h
  show W _ _ _ _ _ _ _ _ _ _ _ _ 6 _ []
  refine W.aloadN d31_6 rfl rfl ?_
  refine W.iloadN d31_7 rfl ?_
  refine W.baload 0 d31_8 mp1 ix0 rfl ?_
  refine W.sipush (255) d31_9 (by decide) ?_
  refine W.iandK x1 d31_12 (z_b255 hx1) ?_
  refine W.i2cK x1 d31_13 (z_i2c (by omega)) ?_
  exact W.ireturn d31_14 rfl (Or.inr (Or.inr (Or.inr (Or.inl rfl)))) (nw_char (by omega)) (by decide) ⟨rfl, rfl⟩
theorem d30_15 : decode jdk_42_method_56_code 15 = .ok (.ireturn, 1) := by decide +kernel
abbrev y37 : MethodName := ⟨"java/lang/String", "charAt", "(I)C"⟩
abbrev y37b : ByteArray := jdk_42_method_56_code
abbrev y37r : Option Jvm.ClassFile.FieldType := (Option.some Jvm.ClassFile.FieldType.char)
theorem c45_charAt {Z a0} (hw : HW a0 Z) (hs : SF Z) {p1 p2 : Addr} {x1 : Int32} (hx1 : 0 ≤ x1.toInt ∧ x1.toInt ≤ 255) {e_p2_1 e_p2_2 : Value} {w_p1 : Bool} {w_p2 : Bool} {ad_p2 : String} {F : List Ent} (mp1 : (p1, w_p1, oString (vr p2) (vi 0)) ∈ F) (mp2 : (p2, w_p2, ar ad_p2 .byte [(vi x1.toInt8.toInt32), e_p2_1, e_p2_2]) ∈ F) : Con Z EL y37 y37b 2 y37r (rmm 3 0 0 40) [(vr p1), (vi 0)] (F) (fun v D' => (v = some (vi x1) ∧ F = D')) := by
  refine Con.of (ls := #[rv p1, iv 0]) (by decide +kernel) rfl ?_
  refine W.aloadN d30_0 rfl rfl ?_
  refine W.callV (as := []) 0 [] d30_1 (wq hw 84 rfl) (wq hw 85 rfl) (wq hw 87 rfl) (wq hw 87 rfl) (wq hw 86 rfl) (wq hw 3 rfl) (wq hw 88 rfl) (Hp.exa mp1) (c24_isLatin1 hw hs (mp1 := mp1)) (by decide) pd__Z rfl rfl rfl rfl (by decide) (fun v D' h => ?_)
  obtain ⟨rfl, rfl⟩ := h
  show W _ _ _ _ _ _ _ _ _ _ _ _ 4 _ [(vi 1)]
  refine W.ifN d30_4 (n_eq (by decide)) ?_
  refine W.aloadN d30_7 rfl rfl ?_
  refine W.getf d30_8 (wq hw 20 rfl) Via.refl mp1 m0 ?_
  refine W.iloadN d30_11 rfl ?_
  refine W.callS (as := [(vr p2), (vi 0)]) 0 [] d30_12 (wq hw 176 rfl) (wq hw 177 rfl) (wq hw 91 rfl) (wq hw 178 rfl) (c46_charAt hw hs (hx1 := hx1) (mp1 := mp2)) (by decide) pd__BI_C rfl rfl rfl rfl (by decide) (fun v D' h => ?_)
  obtain ⟨rfl, rfl⟩ := h
  show W _ _ _ _ _ _ _ _ _ _ _ _ 15 _ [(vi x1)]
  exact W.ireturn d30_15 rfl (Or.inr (Or.inr (Or.inr (Or.inl rfl)))) (nw_char (by omega)) (by decide) ⟨rfl, rfl⟩
theorem pd_I_C : parseMethodDescriptor "(I)C" = some ⟨[.int], some .char⟩ := by decide +kernel
theorem d34_0 : decode method_3_code 0 = .ok (.iload_n 0, 1) := by decide +kernel
theorem d34_1 : decode method_3_code 1 = .ok (.bipush 65, 2) := by decide +kernel
theorem d34_3 : decode method_3_code 3 = .ok (.isub, 1) := by decide +kernel
theorem d34_4 : decode method_3_code 4 = .ok (.istore_n 1, 1) := by decide +kernel
theorem d34_5 : decode method_3_code 5 = .ok (.iload_n 1, 1) := by decide +kernel
theorem d34_6 : decode method_3_code 6 = .ok (.ifCond .lt 15, 3) := by decide +kernel
theorem d34_21 : decode method_3_code 21 = .ok (.iload_n 0, 1) := by decide +kernel
theorem d34_22 : decode method_3_code 22 = .ok (.ireturn, 1) := by decide +kernel
theorem d34_9 : decode method_3_code 9 = .ok (.iload_n 1, 1) := by decide +kernel
theorem d34_10 : decode method_3_code 10 = .ok (.bipush 26, 2) := by decide +kernel
theorem d34_12 : decode method_3_code 12 = .ok (.if_icmp .ge 9, 3) := by decide +kernel
theorem q26 : (26 : Int32).toInt = 26 := by decide
theorem d34_15 : decode method_3_code 15 = .ok (.bipush 97, 2) := by decide +kernel
theorem d34_17 : decode method_3_code 17 = .ok (.iload_n 1, 1) := by decide +kernel
theorem d34_18 : decode method_3_code 18 = .ok (.iadd, 1) := by decide +kernel
theorem d34_19 : decode method_3_code 19 = .ok (.i2c, 1) := by decide +kernel
theorem d34_20 : decode method_3_code 20 = .ok (.ireturn, 1) := by decide +kernel
abbrev y38 : MethodName := ⟨"com/example/rochester/rochester/TokenLowerCasePinLaw", "expected", "(C)C"⟩
abbrev y38b : ByteArray := method_3_code
abbrev y38r : Option Jvm.ClassFile.FieldType := (Option.some Jvm.ClassFile.FieldType.char)
theorem c49_expected {Z a0} (hw : HW a0 Z) (hs : SF Z) {x1 : Int32} (hx1 : 0 ≤ x1.toInt ∧ x1.toInt ≤ 255) {F : List Ent} : Con Z EL y38 y38b 2 y38r (rmm 0 0 0 0) [(vi x1)] (F) (fun v D' => (Cd .lt (x1 - (65 : Int32)) (0 : Int32) ∧ v = some (vi x1) ∧ F = D') ∨ (¬ Cd .lt (x1 - (65 : Int32)) (0 : Int32) ∧ Cd .ge (x1 - (65 : Int32)) (26 : Int32) ∧ v = some (vi x1) ∧ F = D') ∨ (¬ Cd .lt (x1 - (65 : Int32)) (0 : Int32) ∧ ¬ Cd .ge (x1 - (65 : Int32)) (26 : Int32) ∧ v = some (vi ((97 : Int32) + (x1 - (65 : Int32)))) ∧ F = D')) := by
  refine Con.of (ls := #[iv x1, uu]) (by decide +kernel) rfl ?_
  refine W.iloadN d34_0 rfl ?_
  refine W.bipush (65) d34_1 (by decide) ?_
  refine W.isub d34_3 ?_
  refine W.istoreN (ls' := #[iv x1, iv (x1 - (65 : Int32))]) d34_4 rfl ?_
  refine W.iloadN d34_5 rfl ?_
  refine W.if 21 d34_6 (by decide) (fun h1 => ?_) (fun h1 => ?_)
  ·
   have ih1 := t_lt h1
   refine W.iloadN d34_21 rfl ?_
   exact W.ireturn d34_22 rfl (Or.inr (Or.inr (Or.inr (Or.inl rfl)))) (nw_char (by have := q65; have := a_sub x1 (65 : Int32); have := q0; omega)) (by decide) (Or.inl ⟨h1, rfl, rfl⟩)
  ·
   have ih1 := f_lt h1
   refine W.iloadN d34_9 rfl ?_
   refine W.bipush (26) d34_10 (by decide) ?_
   refine W.icmp 21 d34_12 (by decide) (fun h2 => ?_) (fun h2 => ?_)
   ·
    have ih2 := t_ge h2
    refine W.iloadN d34_21 rfl ?_
    exact W.ireturn d34_22 rfl (Or.inr (Or.inr (Or.inr (Or.inl rfl)))) (nw_char (by have := q0; have := q65; have := a_sub x1 (65 : Int32); have := q26; omega)) (by decide) (Or.inr (Or.inl ⟨h1, h2, rfl, rfl⟩))
   ·
    have ih2 := f_ge h2
    refine W.bipush (97) d34_15 (by decide) ?_
    refine W.iloadN d34_17 rfl ?_
    refine W.iadd d34_18 ?_
    refine W.i2cK ((97 : Int32) + (x1 - (65 : Int32))) d34_19 (z_i2c (by have := q97; have := q65; have := a_sub x1 (65 : Int32); have := a_add (97 : Int32) (x1 - (65 : Int32)); have := q0; have := q26; omega)) ?_
    exact W.ireturn d34_20 rfl (Or.inr (Or.inr (Or.inr (Or.inl rfl)))) (nw_char (by have := q97; have := q65; have := a_sub x1 (65 : Int32); have := a_add (97 : Int32) (x1 - (65 : Int32)); have := q0; have := q26; omega)) (by decide) (Or.inr (Or.inr ⟨h1, h2, rfl, rfl⟩))
theorem c49_expectedm {Z a0} (hw : HW a0 Z) (hs : SF Z) {x1 : Int32} (hx1 : 0 ≤ x1.toInt ∧ x1.toInt ≤ 255) {F : List Ent} : Con Z EL y38 y38b 2 y38r (rmm 0 0 0 0) [(vi x1)] (F) (fun v D' => v = some (vi (lc x1)) ∧ F = D') := Con.mono (c49_expected hw hs (x1 := x1) (hx1 := hx1)) (fun v D' h => by
  rcases h with ⟨h0, rfl, rfl⟩ | ⟨h0, h1, rfl, rfl⟩ | ⟨h0, h1, rfl, rfl⟩
  · exact ⟨congrArg (fun z => some (Value.int z)) (lc_of (by have := t_lt h0; have := q65; have := a_sub x1 (65 : Int32); have := q0; omega)), rfl⟩
  · exact ⟨congrArg (fun z => some (Value.int z)) (lc_of (by have := f_lt h0; have := t_ge h1; have := q65; have := a_sub x1 (65 : Int32); have := q0; have := q26; omega)), rfl⟩
  · exact ⟨congrArg (fun z => some (Value.int z)) (lc_of (by have := f_lt h0; have := f_ge h1; have := q97; have := q65; have := a_sub x1 (65 : Int32); have := a_add (97 : Int32) (x1 - (65 : Int32)); have := q0; have := q26; omega)), rfl⟩)
theorem pd_C_C : parseMethodDescriptor "(C)C" = some ⟨[.char], some .char⟩ := by decide +kernel
theorem c51_charAt {Z a0} (hw : HW a0 Z) (hs : SF Z) {p1 : Addr} {x2 : Int32} (hx2 : 0 ≤ x2.toInt ∧ x2.toInt ≤ 255) {e_p1_0 e_p1_2 : Value} {w_p1 : Bool} {ad_p1 : String} {F : List Ent} (mp1 : (p1, w_p1, ar ad_p1 .byte [e_p1_0, (vi x2.toInt8.toInt32), e_p1_2]) ∈ F) : Con Z EL y36 y36b 2 y36r (rmm 2 0 0 27) [(vr p1), (vi 1)] (F) (fun v D' => (v = some (vi x2) ∧ F = D')) := by
  refine Con.of (ls := #[rv p1, iv 1]) (by decide +kernel) rfl ?_
  refine W.iloadN d31_0 rfl ?_
  refine W.aloadN d31_1 rfl rfl ?_
  refine W.alen (3) d31_2 mp1 rfl ?_
  refine W.callS (as := [(vi 1), (vi 3)]) 0 [] d31_3 (wq hw 179 rfl) (wq hw 180 rfl) (wq hw 3 rfl) (wq hw 181 rfl) (c47_checkIndex hw hs (hr0 := by have := q0; have := q1; omega) (hr1 := by have := q1; have := q3; omega)) (by decide) pd_II_V rfl rfl rfl rfl (by decide) (fun v D' h => ?_)
  obtain ⟨rfl, rfl⟩ := h
  show W _ _ _ _ _ _ _ _ _ _ _ _ 6 _ []
  refine W.aloadN d31_6 rfl rfl ?_
  refine W.iloadN d31_7 rfl ?_
  refine W.baload 1 d31_8 mp1 ix1 rfl ?_
  refine W.sipush (255) d31_9 (by decide) ?_
  refine W.iandK x2 d31_12 (z_b255 hx2) ?_
  refine W.i2cK x2 d31_13 (z_i2c (by omega)) ?_
  exact W.ireturn d31_14 rfl (Or.inr (Or.inr (Or.inr (Or.inl rfl)))) (nw_char (by omega)) (by decide) ⟨rfl, rfl⟩
theorem c50_charAt {Z a0} (hw : HW a0 Z) (hs : SF Z) {p1 p2 : Addr} {x2 : Int32} (hx2 : 0 ≤ x2.toInt ∧ x2.toInt ≤ 255) {e_p2_0 e_p2_2 : Value} {w_p1 : Bool} {w_p2 : Bool} {ad_p2 : String} {F : List Ent} (mp1 : (p1, w_p1, oString (vr p2) (vi 0)) ∈ F) (mp2 : (p2, w_p2, ar ad_p2 .byte [e_p2_0, (vi x2.toInt8.toInt32), e_p2_2]) ∈ F) : Con Z EL y37 y37b 2 y37r (rmm 3 0 0 40) [(vr p1), (vi 1)] (F) (fun v D' => (v = some (vi x2) ∧ F = D')) := by
  refine Con.of (ls := #[rv p1, iv 1]) (by decide +kernel) rfl ?_
  refine W.aloadN d30_0 rfl rfl ?_
  refine W.callV (as := []) 0 [] d30_1 (wq hw 84 rfl) (wq hw 85 rfl) (wq hw 87 rfl) (wq hw 87 rfl) (wq hw 86 rfl) (wq hw 3 rfl) (wq hw 88 rfl) (Hp.exa mp1) (c24_isLatin1 hw hs (mp1 := mp1)) (by decide) pd__Z rfl rfl rfl rfl (by decide) (fun v D' h => ?_)
  obtain ⟨rfl, rfl⟩ := h
  show W _ _ _ _ _ _ _ _ _ _ _ _ 4 _ [(vi 1)]
  refine W.ifN d30_4 (n_eq (by decide)) ?_
  refine W.aloadN d30_7 rfl rfl ?_
  refine W.getf d30_8 (wq hw 20 rfl) Via.refl mp1 m0 ?_
  refine W.iloadN d30_11 rfl ?_
  refine W.callS (as := [(vr p2), (vi 1)]) 0 [] d30_12 (wq hw 176 rfl) (wq hw 177 rfl) (wq hw 91 rfl) (wq hw 178 rfl) (c51_charAt hw hs (hx2 := hx2) (mp1 := mp2)) (by decide) pd__BI_C rfl rfl rfl rfl (by decide) (fun v D' h => ?_)
  obtain ⟨rfl, rfl⟩ := h
  show W _ _ _ _ _ _ _ _ _ _ _ _ 15 _ [(vi x2)]
  exact W.ireturn d30_15 rfl (Or.inr (Or.inr (Or.inr (Or.inl rfl)))) (nw_char (by omega)) (by decide) ⟨rfl, rfl⟩
theorem c53_charAt {Z a0} (hw : HW a0 Z) (hs : SF Z) {p1 : Addr} {x3 : Int32} (hx3 : 0 ≤ x3.toInt ∧ x3.toInt ≤ 255) {e_p1_0 e_p1_1 : Value} {w_p1 : Bool} {ad_p1 : String} {F : List Ent} (mp1 : (p1, w_p1, ar ad_p1 .byte [e_p1_0, e_p1_1, (vi x3.toInt8.toInt32)]) ∈ F) : Con Z EL y36 y36b 2 y36r (rmm 2 0 0 27) [(vr p1), (vi 2)] (F) (fun v D' => (v = some (vi x3) ∧ F = D')) := by
  refine Con.of (ls := #[rv p1, iv 2]) (by decide +kernel) rfl ?_
  refine W.iloadN d31_0 rfl ?_
  refine W.aloadN d31_1 rfl rfl ?_
  refine W.alen (3) d31_2 mp1 rfl ?_
  refine W.callS (as := [(vi 2), (vi 3)]) 0 [] d31_3 (wq hw 179 rfl) (wq hw 180 rfl) (wq hw 3 rfl) (wq hw 181 rfl) (c47_checkIndex hw hs (hr0 := by have := q0; have := q2; omega) (hr1 := by have := q2; have := q3; omega)) (by decide) pd_II_V rfl rfl rfl rfl (by decide) (fun v D' h => ?_)
  obtain ⟨rfl, rfl⟩ := h
  show W _ _ _ _ _ _ _ _ _ _ _ _ 6 _ []
  refine W.aloadN d31_6 rfl rfl ?_
  refine W.iloadN d31_7 rfl ?_
  refine W.baload 2 d31_8 mp1 ix2 rfl ?_
  refine W.sipush (255) d31_9 (by decide) ?_
  refine W.iandK x3 d31_12 (z_b255 hx3) ?_
  refine W.i2cK x3 d31_13 (z_i2c (by omega)) ?_
  exact W.ireturn d31_14 rfl (Or.inr (Or.inr (Or.inr (Or.inl rfl)))) (nw_char (by omega)) (by decide) ⟨rfl, rfl⟩
theorem c52_charAt {Z a0} (hw : HW a0 Z) (hs : SF Z) {p1 p2 : Addr} {x3 : Int32} (hx3 : 0 ≤ x3.toInt ∧ x3.toInt ≤ 255) {e_p2_0 e_p2_1 : Value} {w_p1 : Bool} {w_p2 : Bool} {ad_p2 : String} {F : List Ent} (mp1 : (p1, w_p1, oString (vr p2) (vi 0)) ∈ F) (mp2 : (p2, w_p2, ar ad_p2 .byte [e_p2_0, e_p2_1, (vi x3.toInt8.toInt32)]) ∈ F) : Con Z EL y37 y37b 2 y37r (rmm 3 0 0 40) [(vr p1), (vi 2)] (F) (fun v D' => (v = some (vi x3) ∧ F = D')) := by
  refine Con.of (ls := #[rv p1, iv 2]) (by decide +kernel) rfl ?_
  refine W.aloadN d30_0 rfl rfl ?_
  refine W.callV (as := []) 0 [] d30_1 (wq hw 84 rfl) (wq hw 85 rfl) (wq hw 87 rfl) (wq hw 87 rfl) (wq hw 86 rfl) (wq hw 3 rfl) (wq hw 88 rfl) (Hp.exa mp1) (c24_isLatin1 hw hs (mp1 := mp1)) (by decide) pd__Z rfl rfl rfl rfl (by decide) (fun v D' h => ?_)
  obtain ⟨rfl, rfl⟩ := h
  show W _ _ _ _ _ _ _ _ _ _ _ _ 4 _ [(vi 1)]
  refine W.ifN d30_4 (n_eq (by decide)) ?_
  refine W.aloadN d30_7 rfl rfl ?_
  refine W.getf d30_8 (wq hw 20 rfl) Via.refl mp1 m0 ?_
  refine W.iloadN d30_11 rfl ?_
  refine W.callS (as := [(vr p2), (vi 2)]) 0 [] d30_12 (wq hw 176 rfl) (wq hw 177 rfl) (wq hw 91 rfl) (wq hw 178 rfl) (c53_charAt hw hs (hx3 := hx3) (mp1 := mp2)) (by decide) pd__BI_C rfl rfl rfl rfl (by decide) (fun v D' h => ?_)
  obtain ⟨rfl, rfl⟩ := h
  show W _ _ _ _ _ _ _ _ _ _ _ _ 15 _ [(vi x3)]
  exact W.ireturn d30_15 rfl (Or.inr (Or.inr (Or.inr (Or.inl rfl)))) (nw_char (by omega)) (by decide) ⟨rfl, rfl⟩
theorem c56_coder {Z a0} (hw : HW a0 Z) (hs : SF Z) {p1 : Addr} {f_p1_0 : Value} {w_p1 : Bool} {F : List Ent} (mp1 : (p1, w_p1, oString f_p1_0 (vi 1)) ∈ F) : Con Z EL y13 y13b 1 y13r (rmm 0 0 0 0) [(vr p1)] (F) (fun v D' => (v = some (vi 1) ∧ F = D')) := by
  refine Con.of (ls := #[rv p1]) (by decide +kernel) rfl ?_
  refine W.gets d8_0 (wq hw 63 rfl) Via.refl hs.1 ?_
  refine W.ifN d8_3 (n_eq (by have := hs.2.1; have := q0; omega)) ?_
  refine W.aloadN d8_6 rfl rfl ?_
  refine W.getf d8_7 (wq hw 21 rfl) Via.refl mp1 m1 ?_
  refine W.goto 14 d8_10 (by decide) ?_
  exact W.ireturn d8_14 rfl (Or.inr (Or.inr (Or.inl rfl))) (nw_byte (by decide)) (by decide) ⟨rfl, rfl⟩
theorem c55_length {Z a0} (hw : HW a0 Z) (hs : SF Z) {p1 p2 : Addr} {vs_p2 : List Value} (hvs_p2 : vs_p2.length = 6) {w_p1 : Bool} {w_p2 : Bool} {ad_p2 : String} {F : List Ent} (mp1 : (p1, w_p1, oString (vr p2) (vi 1)) ∈ F) (mp2 : (p2, w_p2, ar ad_p2 .byte vs_p2) ∈ F) : Con Z EL y14 y14b 1 y14r (rmm 1 0 0 13) [(vr p1)] (F) (fun v D' => (v = some (vi 3) ∧ F = D')) := by
  refine Con.of (ls := #[rv p1]) (by decide +kernel) rfl ?_
  refine W.aloadN d7_0 rfl rfl ?_
  refine W.getf d7_1 (wq hw 20 rfl) Via.refl mp1 m0 ?_
  refine W.alen (6) d7_4 mp2 (by rw [hvs_p2]; rfl) ?_
  refine W.aloadN d7_5 rfl rfl ?_
  refine W.callV (as := []) 1 [(vi 6)] d7_6 (wq hw 58 rfl) (wq hw 59 rfl) (wq hw 61 rfl) (wq hw 61 rfl) (wq hw 60 rfl) (wq hw 3 rfl) (wq hw 62 rfl) (Hp.exa mp1) (c56_coder hw hs (mp1 := mp1)) (by decide) pd__B rfl rfl rfl rfl (by decide) (fun v D' h => ?_)
  obtain ⟨rfl, rfl⟩ := h
  show W _ _ _ _ _ _ _ _ _ _ _ _ 9 _ [(vi 1), (vi 6)]
  refine W.ishrK (3 : Int32) d7_9 (by decide) ?_
  exact W.ireturn d7_10 rfl (Or.inl rfl) rfl (by decide) ⟨rfl, rfl⟩
theorem d12_17 : decode jdk_42_method_154_code 17 = .ok (.iconst 0, 1) := by decide +kernel
theorem c58_isLatin1 {Z a0} (hw : HW a0 Z) (hs : SF Z) {p1 : Addr} {f_p1_0 : Value} {w_p1 : Bool} {F : List Ent} (mp1 : (p1, w_p1, oString f_p1_0 (vi 1)) ∈ F) : Con Z EL y17 y17b 1 y17r (rmm 0 0 0 0) [(vr p1)] (F) (fun v D' => (v = some (vi 0) ∧ F = D')) := by
  refine Con.of (ls := #[rv p1]) (by decide +kernel) rfl ?_
  refine W.gets d12_0 (wq hw 63 rfl) Via.refl hs.1 ?_
  refine W.ifN d12_3 (n_eq (by have := hs.2.1; have := q0; omega)) ?_
  refine W.aloadN d12_6 rfl rfl ?_
  refine W.getf d12_7 (wq hw 21 rfl) Via.refl mp1 m1 ?_
  refine W.ifY 17 d12_10 (y_ne (by decide)) (by decide) ?_
  refine W.iconst (0) d12_17 (by decide) ?_
  exact W.ireturn d12_18 rfl (Or.inr (Or.inl rfl)) (nw_bool (by decide)) (by decide) ⟨rfl, rfl⟩
theorem d11_17 : decode jdk_42_method_129_code 17 = .ok (.aload_n 0, 1) := by decide +kernel
theorem d11_18 : decode jdk_42_method_129_code 18 = .ok (.getfield 9, 3) := by decide +kernel
theorem d11_21 : decode jdk_42_method_129_code 21 = .ok (.invokestatic 303, 3) := by decide +kernel
theorem d40_0 : decode jdk_52_method_13_code 0 = .ok (.aload_n 0, 1) := by decide +kernel
theorem d40_1 : decode jdk_52_method_13_code 1 = .ok (.arraylength, 1) := by decide +kernel
theorem d40_2 : decode jdk_52_method_13_code 2 = .ok (.iconst 1, 1) := by decide +kernel
theorem d40_3 : decode jdk_52_method_13_code 3 = .ok (.ishr, 1) := by decide +kernel
theorem d40_4 : decode jdk_52_method_13_code 4 = .ok (.newarray .char, 2) := by decide +kernel
theorem d40_6 : decode jdk_52_method_13_code 6 = .ok (.astore_n 1, 1) := by decide +kernel
theorem d40_7 : decode jdk_52_method_13_code 7 = .ok (.aload_n 0, 1) := by decide +kernel
theorem d40_8 : decode jdk_52_method_13_code 8 = .ok (.iconst 0, 1) := by decide +kernel
theorem d40_9 : decode jdk_52_method_13_code 9 = .ok (.aload_n 1, 1) := by decide +kernel
theorem d40_10 : decode jdk_52_method_13_code 10 = .ok (.arraylength, 1) := by decide +kernel
theorem d40_11 : decode jdk_52_method_13_code 11 = .ok (.aload_n 1, 1) := by decide +kernel
theorem d40_12 : decode jdk_52_method_13_code 12 = .ok (.iconst 0, 1) := by decide +kernel
theorem d40_13 : decode jdk_52_method_13_code 13 = .ok (.invokestatic 103, 3) := by decide +kernel
theorem d41_0 : decode jdk_52_method_26_code 0 = .ok (.iload_n 1, 1) := by decide +kernel
theorem d41_1 : decode jdk_52_method_26_code 1 = .ok (.iload_n 2, 1) := by decide +kernel
theorem d41_2 : decode jdk_52_method_26_code 2 = .ok (.if_icmp .ge 11, 3) := by decide +kernel
theorem d41_5 : decode jdk_52_method_26_code 5 = .ok (.iload_n 1, 1) := by decide +kernel
theorem d41_6 : decode jdk_52_method_26_code 6 = .ok (.iload_n 2, 1) := by decide +kernel
theorem d41_7 : decode jdk_52_method_26_code 7 = .ok (.iload_n 1, 1) := by decide +kernel
theorem d41_8 : decode jdk_52_method_26_code 8 = .ok (.isub, 1) := by decide +kernel
theorem d41_9 : decode jdk_52_method_26_code 9 = .ok (.aload_n 0, 1) := by decide +kernel
theorem d41_10 : decode jdk_52_method_26_code 10 = .ok (.invokestatic 173, 3) := by decide +kernel
theorem d42_0 : decode jdk_52_method_94_code 0 = .ok (.iload_n 0, 1) := by decide +kernel
theorem d42_1 : decode jdk_52_method_94_code 1 = .ok (.iload_n 1, 1) := by decide +kernel
theorem d42_2 : decode jdk_52_method_94_code 2 = .ok (.aload_n 2, 1) := by decide +kernel
theorem d42_3 : decode jdk_52_method_94_code 3 = .ok (.invokestatic 48, 3) := by decide +kernel
theorem d43_0 : decode jdk_52_method_6_code 0 = .ok (.aload_n 0, 1) := by decide +kernel
theorem d43_1 : decode jdk_52_method_6_code 1 = .ok (.arraylength, 1) := by decide +kernel
theorem d43_2 : decode jdk_52_method_6_code 2 = .ok (.iconst 1, 1) := by decide +kernel
theorem d43_3 : decode jdk_52_method_6_code 3 = .ok (.ishr, 1) := by decide +kernel
theorem d43_4 : decode jdk_52_method_6_code 4 = .ok (.ireturn, 1) := by decide +kernel
abbrev y39 : MethodName := ⟨"java/lang/StringUTF16", "length", "([B)I"⟩
abbrev y39b : ByteArray := jdk_52_method_6_code
abbrev y39r : Option Jvm.ClassFile.FieldType := (Option.some Jvm.ClassFile.FieldType.int)
theorem c62_length {Z a0} (hw : HW a0 Z) (hs : SF Z) {p1 : Addr} {vs_p1 : List Value} (hvs_p1 : vs_p1.length = 6) {w_p1 : Bool} {ad_p1 : String} {F : List Ent} (mp1 : (p1, w_p1, ar ad_p1 .byte vs_p1) ∈ F) : Con Z EL y39 y39b 1 y39r (rmm 0 0 0 0) [(vr p1)] (F) (fun v D' => (v = some (vi 3) ∧ F = D')) := by
  refine Con.of (ls := #[rv p1]) (by decide +kernel) rfl ?_
  refine W.aloadN d43_0 rfl rfl ?_
  refine W.alen (6) d43_1 mp1 (by rw [hvs_p1]; rfl) ?_
  refine W.iconst (1) d43_2 (by decide) ?_
  refine W.ishrK (3 : Int32) d43_3 (by decide) ?_
  exact W.ireturn d43_4 rfl (Or.inl rfl) rfl (by decide) ⟨rfl, rfl⟩
theorem pd__B_I : parseMethodDescriptor "([B)I" = some ⟨[(.array .byte)], some .int⟩ := by decide +kernel
theorem d42_6 : decode jdk_52_method_94_code 6 = .ok (.invokestatic 419, 3) := by decide +kernel
theorem d44_0 : decode jdk_42_method_157_code 0 = .ok (.iload_n 0, 1) := by decide +kernel
theorem d44_1 : decode jdk_42_method_157_code 1 = .ok (.iload_n 1, 1) := by decide +kernel
theorem d44_2 : decode jdk_42_method_157_code 2 = .ok (.iload_n 2, 1) := by decide +kernel
theorem d44_3 : decode jdk_42_method_157_code 3 = .ok (.getstatic 1053, 3) := by decide +kernel
theorem d44_6 : decode jdk_42_method_157_code 6 = .ok (.invokestatic 1065, 3) := by decide +kernel
theorem d45_0 : decode jdk_41_method_13_code 0 = .ok (.iload_n 2, 1) := by decide +kernel
theorem d45_1 : decode jdk_41_method_13_code 1 = .ok (.iload_n 0, 1) := by decide +kernel
theorem d45_2 : decode jdk_41_method_13_code 2 = .ok (.ior, 1) := by decide +kernel
theorem d45_3 : decode jdk_41_method_13_code 3 = .ok (.iload_n 1, 1) := by decide +kernel
theorem d45_4 : decode jdk_41_method_13_code 4 = .ok (.ior, 1) := by decide +kernel
theorem d45_5 : decode jdk_41_method_13_code 5 = .ok (.ifCond .lt 10, 3) := by decide +kernel
theorem d45_8 : decode jdk_41_method_13_code 8 = .ok (.iload_n 1, 1) := by decide +kernel
theorem d45_9 : decode jdk_41_method_13_code 9 = .ok (.iload_n 2, 1) := by decide +kernel
theorem d45_10 : decode jdk_41_method_13_code 10 = .ok (.iload_n 0, 1) := by decide +kernel
theorem d45_11 : decode jdk_41_method_13_code 11 = .ok (.isub, 1) := by decide +kernel
theorem d45_12 : decode jdk_41_method_13_code 12 = .ok (.if_icmp .le 11, 3) := by decide +kernel
theorem d45_23 : decode jdk_41_method_13_code 23 = .ok (.iload_n 0, 1) := by decide +kernel
theorem d45_24 : decode jdk_41_method_13_code 24 = .ok (.ireturn, 1) := by decide +kernel
abbrev y40 : MethodName := ⟨"jdk/internal/util/Preconditions", "checkFromIndexSize", "(IIILjava/util/function/BiFunction;)I"⟩
abbrev y40b : ByteArray := jdk_41_method_13_code
abbrev y40r : Option Jvm.ClassFile.FieldType := (Option.some Jvm.ClassFile.FieldType.int)
theorem c64_checkFromIndexSize {Z a0} (hw : HW a0 Z) (hs : SF Z) {F : List Ent} : Con Z EL y40 y40b 4 y40r (rmm 0 0 0 0) [(vi 0), (vi 3), (vi 3), (sfv Z)] (F) (fun v D' => (v = some (vi 0) ∧ F = D')) := by
  refine Con.of (ls := #[iv 0, iv 3, iv 3, .val (sfv Z)]) (by decide +kernel) (hent_of (ld1 rfl (ld1 rfl (ld1 rfl (ld1 (XT.cat1 hs.2.2.1) ld0)))) rfl) ?_
  refine W.iloadN d45_0 rfl ?_
  refine W.iloadN d45_1 rfl ?_
  refine W.iorK (3 : Int32) d45_2 (by decide) ?_
  refine W.iloadN d45_3 rfl ?_
  refine W.iorK (3 : Int32) d45_4 (by decide) ?_
  refine W.ifN d45_5 (n_lt (by decide)) ?_
  refine W.iloadN d45_8 rfl ?_
  refine W.iloadN d45_9 rfl ?_
  refine W.iloadN d45_10 rfl ?_
  refine W.isubK (3 : Int32) d45_11 (by decide) ?_
  refine W.icmpY 23 d45_12 (y_le (by decide)) (by decide) ?_
  refine W.iloadN d45_23 rfl ?_
  exact W.ireturn d45_24 rfl (Or.inl rfl) rfl (by decide) ⟨rfl, rfl⟩
theorem pd_IIILjava_util_function_BiFunction__I : parseMethodDescriptor "(IIILjava/util/function/BiFunction;)I" = some ⟨[.int, .int, .int, (.object "java/util/function/BiFunction")], some .int⟩ := by decide +kernel
theorem d44_9 : decode jdk_42_method_157_code 9 = .ok (.ireturn, 1) := by decide +kernel
abbrev y41 : MethodName := ⟨"java/lang/String", "checkBoundsOffCount", "(III)I"⟩
abbrev y41b : ByteArray := jdk_42_method_157_code
abbrev y41r : Option Jvm.ClassFile.FieldType := (Option.some Jvm.ClassFile.FieldType.int)
theorem c63_checkBoundsOffCount {Z a0} (hw : HW a0 Z) (hs : SF Z) {F : List Ent} : Con Z EL y41 y41b 3 y41r (rmm 1 0 0 15) [(vi 0), (vi 3), (vi 3)] (F) (fun v D' => (v = some (vi 0) ∧ F = D')) := by
  refine Con.of (ls := #[iv 0, iv 3, iv 3]) (by decide +kernel) rfl ?_
  refine W.iloadN d44_0 rfl ?_
  refine W.iloadN d44_1 rfl ?_
  refine W.iloadN d44_2 rfl ?_
  refine W.gets d44_3 (wq hw 182 rfl) Via.refl hs.2.2.2.1 ?_
  refine W.callS (as := [(vi 0), (vi 3), (vi 3), (sfv Z)]) 0 [] d44_6 (wq hw 225 rfl) (wq hw 226 rfl) (wq hw 183 rfl) (wq hw 227 rfl) (c64_checkFromIndexSize hw hs) (by decide) pd_IIILjava_util_function_BiFunction__I rfl rfl rfl rfl (by decide) (fun v D' h => ?_)
  obtain ⟨rfl, rfl⟩ := h
  show W _ _ _ _ _ _ _ _ _ _ _ _ 9 _ [(vi 0)]
  exact W.ireturn d44_9 rfl (Or.inl rfl) rfl (by decide) ⟨rfl, rfl⟩
theorem pd_III_I : parseMethodDescriptor "(III)I" = some ⟨[.int, .int, .int], some .int⟩ := by decide +kernel
theorem d42_9 : decode jdk_52_method_94_code 9 = .ok (.pop, 1) := by decide +kernel
theorem d42_10 : decode jdk_52_method_94_code 10 = .ok (.return_, 1) := by decide +kernel
abbrev y42 : MethodName := ⟨"java/lang/StringUTF16", "checkBoundsOffCount", "(II[B)V"⟩
abbrev y42b : ByteArray := jdk_52_method_94_code
abbrev y42r : Option Jvm.ClassFile.FieldType := (Option.none : Option Jvm.ClassFile.FieldType)
theorem c61_checkBoundsOffCount {Z a0} (hw : HW a0 Z) (hs : SF Z) {p1 : Addr} {vs_p1 : List Value} (hvs_p1 : vs_p1.length = 6) {w_p1 : Bool} {ad_p1 : String} {F : List Ent} (mp1 : (p1, w_p1, ar ad_p1 .byte vs_p1) ∈ F) : Con Z EL y42 y42b 3 y42r (rmm 2 0 0 29) [(vi 0), (vi 3), (vr p1)] (F) (fun v D' => (v = none ∧ F = D')) := by
  refine Con.of (ls := #[iv 0, iv 3, rv p1]) (by decide +kernel) rfl ?_
  refine W.iloadN d42_0 rfl ?_
  refine W.iloadN d42_1 rfl ?_
  refine W.aloadN d42_2 rfl rfl ?_
  refine W.callS (as := [(vr p1)]) 2 [(vi 3), (vi 0)] d42_3 (wq hw 219 rfl) (wq hw 220 rfl) (wq hw 145 rfl) (wq hw 221 rfl) (c62_length hw hs (hvs_p1 := hvs_p1) (mp1 := mp1)) (by decide) pd__B_I rfl rfl rfl rfl (by decide) (fun v D' h => ?_)
  obtain ⟨rfl, rfl⟩ := h
  show W _ _ _ _ _ _ _ _ _ _ _ _ 6 _ [(vi 3), (vi 3), (vi 0)]
  refine W.callS (as := [(vi 0), (vi 3), (vi 3)]) 0 [] d42_6 (wq hw 222 rfl) (wq hw 223 rfl) (wq hw 3 rfl) (wq hw 224 rfl) (c63_checkBoundsOffCount hw hs) (by decide) pd_III_I rfl rfl rfl rfl (by decide) (fun v D' h => ?_)
  obtain ⟨rfl, rfl⟩ := h
  show W _ _ _ _ _ _ _ _ _ _ _ _ 9 _ [(vi 0)]
  refine W.popv d42_9 rfl ?_
  exact W.return_ d42_10 rfl (by decide) ⟨rfl, rfl⟩
theorem pd_II_B_V : parseMethodDescriptor "(II[B)V" = some ⟨[.int, .int, (.array .byte)], none⟩ := by decide +kernel
theorem d41_13 : decode jdk_52_method_26_code 13 = .ok (.iload_n 1, 1) := by decide +kernel
theorem d41_14 : decode jdk_52_method_26_code 14 = .ok (.istore 5, 2) := by decide +kernel
theorem d41_16 : decode jdk_52_method_26_code 16 = .ok (.iload 5, 2) := by decide +kernel
theorem d41_18 : decode jdk_52_method_26_code 18 = .ok (.iload_n 2, 1) := by decide +kernel
theorem d41_19 : decode jdk_52_method_26_code 19 = .ok (.if_icmp .ge 22, 3) := by decide +kernel
theorem d41_22 : decode jdk_52_method_26_code 22 = .ok (.aload_n 3, 1) := by decide +kernel
theorem d41_23 : decode jdk_52_method_26_code 23 = .ok (.iload 4, 2) := by decide +kernel
theorem d41_25 : decode jdk_52_method_26_code 25 = .ok (.iinc 4 1, 3) := by decide +kernel
theorem d41_28 : decode jdk_52_method_26_code 28 = .ok (.aload_n 0, 1) := by decide +kernel
theorem d41_29 : decode jdk_52_method_26_code 29 = .ok (.iload 5, 2) := by decide +kernel
theorem d41_31 : decode jdk_52_method_26_code 31 = .ok (.invokestatic 71, 3) := by decide +kernel
theorem d41_34 : decode jdk_52_method_26_code 34 = .ok (.castore, 1) := by decide +kernel
theorem d41_35 : decode jdk_52_method_26_code 35 = .ok (.iinc 5 1, 3) := by decide +kernel
theorem d41_38 : decode jdk_52_method_26_code 38 = .ok (.goto (-22), 3) := by decide +kernel
theorem d41_41 : decode jdk_52_method_26_code 41 = .ok (.return_, 1) := by decide +kernel
abbrev y43 : MethodName := ⟨"java/lang/StringUTF16", "getChars", "([BII[CI)V"⟩
abbrev y43b : ByteArray := jdk_52_method_26_code
abbrev y43r : Option Jvm.ClassFile.FieldType := (Option.none : Option Jvm.ClassFile.FieldType)
theorem c60_getChars {Z a0} (hw : HW a0 Z) (hs : SF Z) {p1 p2 : Addr} {x1 : Int32} (hx1 : 0 ≤ x1.toInt ∧ x1.toInt ≤ 65535) {x2 : Int32} (hx2 : 0 ≤ x2.toInt ∧ x2.toInt ≤ 65535) {x3 : Int32} (hx3 : 0 ≤ x3.toInt ∧ x3.toInt ≤ 65535) {ad_p2 : String} {w_p1 : Bool} {ad_p1 : String} {F : List Ent} (mp1 : (p1, w_p1, ar ad_p1 .byte [(vi x1.toInt8.toInt32), (vi (x1 >>> ((8 : Int32) &&& 31)).toInt8.toInt32), (vi x2.toInt8.toInt32), (vi (x2 >>> ((8 : Int32) &&& 31)).toInt8.toInt32), (vi x3.toInt8.toInt32), (vi (x3 >>> ((8 : Int32) &&& 31)).toInt8.toInt32)]) ∈ F) : Con Z EL y43 y43b 6 y43r (rmm 3 0 0 43) [(vr p1), (vi 0), (vi 3), (vr p2), (vi 0)] ((p2, true, ar ad_p2 .char [(vi 0), (vi 0), (vi 0)]) :: F) (fun v D' => (v = none ∧ (p2, true, ar ad_p2 .char [(vi x1), (vi x2), (vi x3)]) :: F = D')) := by
  refine Con.of (ls := #[rv p1, iv 0, iv 3, rv p2, iv 0, uu]) (by decide +kernel) rfl ?_
  refine W.iloadN d41_0 rfl ?_
  refine W.iloadN d41_1 rfl ?_
  refine W.icmpN d41_2 (n_ge (by decide)) ?_
  refine W.iloadN d41_5 rfl ?_
  refine W.iloadN d41_6 rfl ?_
  refine W.iloadN d41_7 rfl ?_
  refine W.isubK (3 : Int32) d41_8 (by decide) ?_
  refine W.aloadN d41_9 rfl rfl ?_
  refine W.callS (as := [(vi 0), (vi 3), (vr p1)]) 0 [] d41_10 (wq hw 216 rfl) (wq hw 217 rfl) (wq hw 145 rfl) (wq hw 218 rfl) (c61_checkBoundsOffCount hw hs (hvs_p1 := rfl) (mp1 := (mS mp1))) (by decide) pd_II_B_V rfl rfl rfl rfl (by decide) (fun v D' h => ?_)
  obtain ⟨rfl, rfl⟩ := h
  show W _ _ _ _ _ _ _ _ _ _ _ _ 13 _ []
  refine W.iloadN d41_13 rfl ?_
  refine W.istore (ls' := #[rv p1, iv 0, iv 3, rv p2, iv 0, iv 0]) d41_14 rfl ?_
  refine W.iload d41_16 rfl ?_
  refine W.iloadN d41_18 rfl ?_
  refine W.icmpN d41_19 (n_ge (by decide)) ?_
  refine W.aloadN d41_22 rfl rfl ?_
  refine W.iload d41_23 rfl ?_
  refine W.iincK (ls' := #[rv p1, iv 0, iv 3, rv p2, iv 1, iv 0]) (1) (1 : Int32) d41_25 (by decide) rfl (by decide) rfl ?_
  refine W.aloadN d41_28 rfl rfl ?_
  refine W.iload d41_29 rfl ?_
  refine W.callS (as := [(vr p1), (vi 0)]) 2 [(vi 0), (vr p2)] d41_31 (wq hw 207 rfl) (wq hw 208 rfl) (wq hw 145 rfl) (wq hw 209 rfl) (c13_getChar hw hs (hx1 := hx1) (mp1 := (mS mp1))) (by decide) pd__BI_C rfl rfl rfl rfl (by decide) (fun v D' h => ?_)
  obtain ⟨rfl, rfl⟩ := h
  show W _ _ _ _ _ _ _ _ _ _ _ _ 34 _ [(vi x1), (vi 0), (vr p2)]
  refine W.castore (D' := (p2, true, ar ad_p2 .char [(vi x1), (vi 0), (vi 0)]) :: F) 0 0 d41_34 rfl ix0 (Nat.le_of_ble_eq_true rfl) (z_narC hx1) rfl ?_
  refine W.iincK (ls' := #[rv p1, iv 0, iv 3, rv p2, iv 1, iv 1]) (1) (1 : Int32) d41_35 (by decide) rfl (by decide) rfl ?_
  refine W.goto 16 d41_38 (by decide) ?_
  refine W.iload d41_16 rfl ?_
  refine W.iloadN d41_18 rfl ?_
  refine W.icmpN d41_19 (n_ge (by decide)) ?_
  refine W.aloadN d41_22 rfl rfl ?_
  refine W.iload d41_23 rfl ?_
  refine W.iincK (ls' := #[rv p1, iv 0, iv 3, rv p2, iv 2, iv 1]) (1) (2 : Int32) d41_25 (by decide) rfl (by decide) rfl ?_
  refine W.aloadN d41_28 rfl rfl ?_
  refine W.iload d41_29 rfl ?_
  refine W.callS (as := [(vr p1), (vi 1)]) 2 [(vi 1), (vr p2)] d41_31 (wq hw 207 rfl) (wq hw 208 rfl) (wq hw 145 rfl) (wq hw 209 rfl) (c12_getChar hw hs (hx2 := hx2) (mp1 := (mS mp1))) (by decide) pd__BI_C rfl rfl rfl rfl (by decide) (fun v D' h => ?_)
  obtain ⟨rfl, rfl⟩ := h
  show W _ _ _ _ _ _ _ _ _ _ _ _ 34 _ [(vi x2), (vi 1), (vr p2)]
  refine W.castore (D' := (p2, true, ar ad_p2 .char [(vi x1), (vi x2), (vi 0)]) :: F) 0 1 d41_34 rfl ix1 (Nat.le_of_ble_eq_true rfl) (z_narC hx2) rfl ?_
  refine W.iincK (ls' := #[rv p1, iv 0, iv 3, rv p2, iv 2, iv 2]) (1) (2 : Int32) d41_35 (by decide) rfl (by decide) rfl ?_
  refine W.goto 16 d41_38 (by decide) ?_
  refine W.iload d41_16 rfl ?_
  refine W.iloadN d41_18 rfl ?_
  refine W.icmpN d41_19 (n_ge (by decide)) ?_
  refine W.aloadN d41_22 rfl rfl ?_
  refine W.iload d41_23 rfl ?_
  refine W.iincK (ls' := #[rv p1, iv 0, iv 3, rv p2, iv 3, iv 2]) (1) (3 : Int32) d41_25 (by decide) rfl (by decide) rfl ?_
  refine W.aloadN d41_28 rfl rfl ?_
  refine W.iload d41_29 rfl ?_
  refine W.callS (as := [(vr p1), (vi 2)]) 2 [(vi 2), (vr p2)] d41_31 (wq hw 207 rfl) (wq hw 208 rfl) (wq hw 145 rfl) (wq hw 209 rfl) (c11_getChar hw hs (hx3 := hx3) (mp1 := (mS mp1))) (by decide) pd__BI_C rfl rfl rfl rfl (by decide) (fun v D' h => ?_)
  obtain ⟨rfl, rfl⟩ := h
  show W _ _ _ _ _ _ _ _ _ _ _ _ 34 _ [(vi x3), (vi 2), (vr p2)]
  refine W.castore (D' := (p2, true, ar ad_p2 .char [(vi x1), (vi x2), (vi x3)]) :: F) 0 2 d41_34 rfl ix2 (Nat.le_of_ble_eq_true rfl) (z_narC hx3) rfl ?_
  refine W.iincK (ls' := #[rv p1, iv 0, iv 3, rv p2, iv 3, iv 3]) (1) (3 : Int32) d41_35 (by decide) rfl (by decide) rfl ?_
  refine W.goto 16 d41_38 (by decide) ?_
  refine W.iload d41_16 rfl ?_
  refine W.iloadN d41_18 rfl ?_
  refine W.icmpY 41 d41_19 (y_ge (by decide)) (by decide) ?_
  exact W.return_ d41_41 rfl (by decide) ⟨rfl, rfl⟩
theorem pd__BII_CI_V : parseMethodDescriptor "([BII[CI)V" = some ⟨[(.array .byte), .int, .int, (.array .char), .int], none⟩ := by decide +kernel
theorem d40_16 : decode jdk_52_method_13_code 16 = .ok (.aload_n 1, 1) := by decide +kernel
theorem d40_17 : decode jdk_52_method_13_code 17 = .ok (.areturn, 1) := by decide +kernel
abbrev y44 : MethodName := ⟨"java/lang/StringUTF16", "toChars", "([B)[C"⟩
abbrev y44b : ByteArray := jdk_52_method_13_code
abbrev y44r : Option Jvm.ClassFile.FieldType := (Option.some (Jvm.ClassFile.FieldType.array Jvm.ClassFile.FieldType.char))
theorem c59_toChars {Z a0} (hw : HW a0 Z) (hs : SF Z) {p1 : Addr} {x1 : Int32} (hx1 : 0 ≤ x1.toInt ∧ x1.toInt ≤ 65535) {x2 : Int32} (hx2 : 0 ≤ x2.toInt ∧ x2.toInt ≤ 65535) {x3 : Int32} (hx3 : 0 ≤ x3.toInt ∧ x3.toInt ≤ 65535) {w_p1 : Bool} {ad_p1 : String} {F : List Ent} (mp1 : (p1, w_p1, ar ad_p1 .byte [(vi x1.toInt8.toInt32), (vi (x1 >>> ((8 : Int32) &&& 31)).toInt8.toInt32), (vi x2.toInt8.toInt32), (vi (x2 >>> ((8 : Int32) &&& 31)).toInt8.toInt32), (vi x3.toInt8.toInt32), (vi (x3 >>> ((8 : Int32) &&& 31)).toInt8.toInt32)]) ∈ F) : Con Z EL y44 y44b 2 y44r (rmm 4 1 3 60) [(vr p1)] (F) (fun v D' => (∃ a1 : Addr, v = some (vr a1) ∧ (a1, true, ar "[C" .char [(vi x1), (vi x2), (vi x3)]) :: F = D')) := by
  refine Con.of (ls := #[rv p1, uu]) (by decide +kernel) rfl ?_
  refine W.aloadN d40_0 rfl rfl ?_
  refine W.alen (6) d40_1 mp1 rfl ?_
  refine W.iconst (1) d40_2 (by decide) ?_
  refine W.ishrK (3 : Int32) d40_3 (by decide) ?_
  refine W.newarr 3 (ad := "[C") (ty := .char) d40_4 rfl (wq hw 0 rfl) ix3 rfl (by decide) (by decide) (fun a1 => ?_)
  show W _ _ _ _ _ _ _ _ _ _ _ _ 6 _ [(vr a1)]
  refine W.astoreN (ls' := #[rv p1, rv a1]) d40_6 rfl rfl ?_
  refine W.aloadN d40_7 rfl rfl ?_
  refine W.iconst (0) d40_8 (by decide) ?_
  refine W.aloadN d40_9 rfl rfl ?_
  refine W.alen (3) d40_10 m0 rfl ?_
  refine W.aloadN d40_11 rfl rfl ?_
  refine W.iconst (0) d40_12 (by decide) ?_
  refine W.callS (as := [(vr p1), (vi 0), (vi 3), (vr a1), (vi 0)]) 0 [] d40_13 (wq hw 213 rfl) (wq hw 214 rfl) (wq hw 145 rfl) (wq hw 215 rfl) (c60_getChars hw hs (hx1 := hx1) (hx2 := hx2) (hx3 := hx3) (mp1 := mp1)) (by decide) pd__BII_CI_V rfl rfl rfl rfl (by decide) (fun v D' h => ?_)
  obtain ⟨rfl, rfl⟩ := h
  show W _ _ _ _ _ _ _ _ _ _ _ _ 16 _ []
  refine W.aloadN d40_16 rfl rfl ?_
  exact W.areturn d40_17 rfl rfl rfl (by decide) ⟨a1, rfl, rfl⟩
theorem c57_toCharArray {Z a0} (hw : HW a0 Z) (hs : SF Z) {p1 p2 : Addr} {x1 : Int32} (hx1 : 0 ≤ x1.toInt ∧ x1.toInt ≤ 65535) {x2 : Int32} (hx2 : 0 ≤ x2.toInt ∧ x2.toInt ≤ 65535) {x3 : Int32} (hx3 : 0 ≤ x3.toInt ∧ x3.toInt ≤ 65535) {w_p1 : Bool} {w_p2 : Bool} {ad_p2 : String} {F : List Ent} (mp1 : (p1, w_p1, oString (vr p2) (vi 1)) ∈ F) (mp2 : (p2, w_p2, ar ad_p2 .byte [(vi x1.toInt8.toInt32), (vi (x1 >>> ((8 : Int32) &&& 31)).toInt8.toInt32), (vi x2.toInt8.toInt32), (vi (x2 >>> ((8 : Int32) &&& 31)).toInt8.toInt32), (vi x3.toInt8.toInt32), (vi (x3 >>> ((8 : Int32) &&& 31)).toInt8.toInt32)]) ∈ F) : Con Z EL y20 y20b 1 y20r (rmm 5 1 3 73) [(vr p1)] (F) (fun v D' => (∃ a1 : Addr, v = some (vr a1) ∧ (a1, true, ar "[C" .char [(vi x1), (vi x2), (vi x3)]) :: F = D')) := by
  refine Con.of (ls := #[rv p1]) (by decide +kernel) rfl ?_
  refine W.aloadN d11_0 rfl rfl ?_
  refine W.callV (as := []) 0 [] d11_1 (wq hw 84 rfl) (wq hw 85 rfl) (wq hw 87 rfl) (wq hw 87 rfl) (wq hw 86 rfl) (wq hw 3 rfl) (wq hw 88 rfl) (Hp.exa mp1) (c58_isLatin1 hw hs (mp1 := mp1)) (by decide) pd__Z rfl rfl rfl rfl (by decide) (fun v D' h => ?_)
  obtain ⟨rfl, rfl⟩ := h
  show W _ _ _ _ _ _ _ _ _ _ _ _ 4 _ [(vi 0)]
  refine W.ifY 17 d11_4 (y_eq (by decide)) (by decide) ?_
  refine W.aloadN d11_17 rfl rfl ?_
  refine W.getf d11_18 (wq hw 20 rfl) Via.refl mp1 m0 ?_
  refine W.callS (as := [(vr p2)]) 0 [] d11_21 (wq hw 210 rfl) (wq hw 211 rfl) (wq hw 145 rfl) (wq hw 212 rfl) (c59_toChars hw hs (hx1 := hx1) (hx2 := hx2) (hx3 := hx3) (mp1 := mp2)) (by decide) pd__B__C rfl rfl rfl rfl (by decide) (fun v D' h => ?_)
  obtain ⟨a1, rfl, rfl⟩ := h
  show W _ _ _ _ _ _ _ _ _ _ _ _ 24 _ [(vr a1)]
  exact W.areturn d11_24 rfl rfl rfl (by decide) ⟨a1, rfl, rfl⟩
theorem d29_11 : decode jdk_43_method_3_code 11 = .ok (.iconst 0, 1) := by decide +kernel
theorem c67_canEncode {Z a0} (hw : HW a0 Z) (hs : SF Z) {x1 : Int32} (hx1 : 256 ≤ x1.toInt ∧ x1.toInt ≤ 65535) {F : List Ent} : Con Z EL y23 y23b 1 y23r (rmm 0 0 0 0) [(vi x1)] (F) (fun v D' => (v = some (vi 0) ∧ F = D')) := by
  refine Con.of (ls := #[iv x1]) (by decide +kernel) rfl ?_
  refine W.iloadN d29_0 rfl ?_
  refine W.sipush (255) d29_1 (by decide) ?_
  refine W.icmpY 11 d29_4 (y_gt (by have := q255; omega)) (by decide) ?_
  refine W.iconst (0) d29_11 (by decide) ?_
  exact W.ireturn d29_12 rfl (Or.inr (Or.inl rfl)) (nw_bool (by decide)) (by decide) ⟨rfl, rfl⟩
theorem d27_45 : decode jdk_68_method_31_code 45 = .ok (.aload_n 0, 1) := by decide +kernel
theorem d27_46 : decode jdk_68_method_31_code 46 = .ok (.invokevirtual 83, 3) := by decide +kernel
theorem d27_49 : decode jdk_68_method_31_code 49 = .ok (.ifCond .eq 7, 3) := by decide +kernel
theorem d27_52 : decode jdk_68_method_31_code 52 = .ok (.aload_n 0, 1) := by decide +kernel
theorem d27_53 : decode jdk_68_method_31_code 53 = .ok (.invokevirtual 195, 3) := by decide +kernel
theorem d46_0 : decode jdk_68_method_11_code 0 = .ok (.aload_n 0, 1) := by decide +kernel
theorem d46_1 : decode jdk_68_method_11_code 1 = .ok (.invokevirtual 83, 3) := by decide +kernel
theorem d46_4 : decode jdk_68_method_11_code 4 = .ok (.ifCond .ne 4, 3) := by decide +kernel
theorem d46_8 : decode jdk_68_method_11_code 8 = .ok (.aload_n 0, 1) := by decide +kernel
theorem d46_9 : decode jdk_68_method_11_code 9 = .ok (.getfield 15, 3) := by decide +kernel
theorem d46_12 : decode jdk_68_method_11_code 12 = .ok (.arraylength, 1) := by decide +kernel
theorem d46_13 : decode jdk_68_method_11_code 13 = .ok (.invokestatic 26, 3) := by decide +kernel
theorem d46_16 : decode jdk_68_method_11_code 16 = .ok (.astore_n 1, 1) := by decide +kernel
theorem d46_17 : decode jdk_68_method_11_code 17 = .ok (.aload_n 0, 1) := by decide +kernel
theorem d46_18 : decode jdk_68_method_11_code 18 = .ok (.getfield 15, 3) := by decide +kernel
theorem d46_21 : decode jdk_68_method_11_code 21 = .ok (.iconst 0, 1) := by decide +kernel
theorem d46_22 : decode jdk_68_method_11_code 22 = .ok (.aload_n 1, 1) := by decide +kernel
theorem d46_23 : decode jdk_68_method_11_code 23 = .ok (.iconst 0, 1) := by decide +kernel
theorem d46_24 : decode jdk_68_method_11_code 24 = .ok (.aload_n 0, 1) := by decide +kernel
theorem d46_25 : decode jdk_68_method_11_code 25 = .ok (.getfield 79, 3) := by decide +kernel
theorem d46_28 : decode jdk_68_method_11_code 28 = .ok (.invokestatic 125, 3) := by decide +kernel
theorem d47_0 : decode jdk_43_method_50_code 0 = .ok (.aload_n 0, 1) := by decide +kernel
theorem d47_1 : decode jdk_43_method_50_code 1 = .ok (.iload_n 1, 1) := by decide +kernel
theorem d47_2 : decode jdk_43_method_50_code 2 = .ok (.aload_n 2, 1) := by decide +kernel
theorem d47_3 : decode jdk_43_method_50_code 3 = .ok (.iload_n 3, 1) := by decide +kernel
theorem d47_4 : decode jdk_43_method_50_code 4 = .ok (.iload 4, 2) := by decide +kernel
theorem d47_6 : decode jdk_43_method_50_code 6 = .ok (.invokestatic 240, 3) := by decide +kernel
theorem d48_0 : decode jdk_52_method_86_code 0 = .ok (.iload_n 3, 1) := by decide +kernel
theorem d48_1 : decode jdk_52_method_86_code 1 = .ok (.iload 4, 2) := by decide +kernel
theorem d48_3 : decode jdk_52_method_86_code 3 = .ok (.aload_n 2, 1) := by decide +kernel
theorem d48_4 : decode jdk_52_method_86_code 4 = .ok (.invokestatic 173, 3) := by decide +kernel
theorem c73_checkFromIndexSize {Z a0} (hw : HW a0 Z) (hs : SF Z) {F : List Ent} : Con Z EL y40 y40b 4 y40r (rmm 0 0 0 0) [(vi 0), (vi 2), (vi 3), (sfv Z)] (F) (fun v D' => (v = some (vi 0) ∧ F = D')) := by
  refine Con.of (ls := #[iv 0, iv 2, iv 3, .val (sfv Z)]) (by decide +kernel) (hent_of (ld1 rfl (ld1 rfl (ld1 rfl (ld1 (XT.cat1 hs.2.2.1) ld0)))) rfl) ?_
  refine W.iloadN d45_0 rfl ?_
  refine W.iloadN d45_1 rfl ?_
  refine W.iorK (3 : Int32) d45_2 (by decide) ?_
  refine W.iloadN d45_3 rfl ?_
  refine W.iorK (3 : Int32) d45_4 (by decide) ?_
  refine W.ifN d45_5 (n_lt (by decide)) ?_
  refine W.iloadN d45_8 rfl ?_
  refine W.iloadN d45_9 rfl ?_
  refine W.iloadN d45_10 rfl ?_
  refine W.isubK (3 : Int32) d45_11 (by decide) ?_
  refine W.icmpY 23 d45_12 (y_le (by decide)) (by decide) ?_
  refine W.iloadN d45_23 rfl ?_
  exact W.ireturn d45_24 rfl (Or.inl rfl) rfl (by decide) ⟨rfl, rfl⟩
theorem c72_checkBoundsOffCount {Z a0} (hw : HW a0 Z) (hs : SF Z) {F : List Ent} : Con Z EL y41 y41b 3 y41r (rmm 1 0 0 15) [(vi 0), (vi 2), (vi 3)] (F) (fun v D' => (v = some (vi 0) ∧ F = D')) := by
  refine Con.of (ls := #[iv 0, iv 2, iv 3]) (by decide +kernel) rfl ?_
  refine W.iloadN d44_0 rfl ?_
  refine W.iloadN d44_1 rfl ?_
  refine W.iloadN d44_2 rfl ?_
  refine W.gets d44_3 (wq hw 182 rfl) Via.refl hs.2.2.2.1 ?_
  refine W.callS (as := [(vi 0), (vi 2), (vi 3), (sfv Z)]) 0 [] d44_6 (wq hw 225 rfl) (wq hw 226 rfl) (wq hw 183 rfl) (wq hw 227 rfl) (c73_checkFromIndexSize hw hs) (by decide) pd_IIILjava_util_function_BiFunction__I rfl rfl rfl rfl (by decide) (fun v D' h => ?_)
  obtain ⟨rfl, rfl⟩ := h
  show W _ _ _ _ _ _ _ _ _ _ _ _ 9 _ [(vi 0)]
  exact W.ireturn d44_9 rfl (Or.inl rfl) rfl (by decide) ⟨rfl, rfl⟩
theorem c71_checkBoundsOffCount {Z a0} (hw : HW a0 Z) (hs : SF Z) {p1 : Addr} {vs_p1 : List Value} (hvs_p1 : vs_p1.length = 6) {w_p1 : Bool} {ad_p1 : String} {F : List Ent} (mp1 : (p1, w_p1, ar ad_p1 .byte vs_p1) ∈ F) : Con Z EL y42 y42b 3 y42r (rmm 2 0 0 29) [(vi 0), (vi 2), (vr p1)] (F) (fun v D' => (v = none ∧ F = D')) := by
  refine Con.of (ls := #[iv 0, iv 2, rv p1]) (by decide +kernel) rfl ?_
  refine W.iloadN d42_0 rfl ?_
  refine W.iloadN d42_1 rfl ?_
  refine W.aloadN d42_2 rfl rfl ?_
  refine W.callS (as := [(vr p1)]) 2 [(vi 2), (vi 0)] d42_3 (wq hw 219 rfl) (wq hw 220 rfl) (wq hw 145 rfl) (wq hw 221 rfl) (c62_length hw hs (hvs_p1 := hvs_p1) (mp1 := mp1)) (by decide) pd__B_I rfl rfl rfl rfl (by decide) (fun v D' h => ?_)
  obtain ⟨rfl, rfl⟩ := h
  show W _ _ _ _ _ _ _ _ _ _ _ _ 6 _ [(vi 3), (vi 2), (vi 0)]
  refine W.callS (as := [(vi 0), (vi 2), (vi 3)]) 0 [] d42_6 (wq hw 222 rfl) (wq hw 223 rfl) (wq hw 3 rfl) (wq hw 224 rfl) (c72_checkBoundsOffCount hw hs) (by decide) pd_III_I rfl rfl rfl rfl (by decide) (fun v D' h => ?_)
  obtain ⟨rfl, rfl⟩ := h
  show W _ _ _ _ _ _ _ _ _ _ _ _ 9 _ [(vi 0)]
  refine W.popv d42_9 rfl ?_
  exact W.return_ d42_10 rfl (by decide) ⟨rfl, rfl⟩
theorem d48_7 : decode jdk_52_method_86_code 7 = .ok (.iconst 0, 1) := by decide +kernel
theorem d48_8 : decode jdk_52_method_86_code 8 = .ok (.istore 5, 2) := by decide +kernel
theorem d48_10 : decode jdk_52_method_86_code 10 = .ok (.iload 5, 2) := by decide +kernel
theorem d48_12 : decode jdk_52_method_86_code 12 = .ok (.iload 4, 2) := by decide +kernel
theorem d48_14 : decode jdk_52_method_86_code 14 = .ok (.if_icmp .ge 27, 3) := by decide +kernel
theorem d48_17 : decode jdk_52_method_86_code 17 = .ok (.aload_n 2, 1) := by decide +kernel
theorem d48_18 : decode jdk_52_method_86_code 18 = .ok (.iload_n 3, 1) := by decide +kernel
theorem d48_19 : decode jdk_52_method_86_code 19 = .ok (.iinc 3 1, 3) := by decide +kernel
theorem d48_22 : decode jdk_52_method_86_code 22 = .ok (.aload_n 0, 1) := by decide +kernel
theorem d48_23 : decode jdk_52_method_86_code 23 = .ok (.iload_n 1, 1) := by decide +kernel
theorem d48_24 : decode jdk_52_method_86_code 24 = .ok (.iinc 1 1, 3) := by decide +kernel
theorem d48_27 : decode jdk_52_method_86_code 27 = .ok (.baload, 1) := by decide +kernel
theorem d48_28 : decode jdk_52_method_86_code 28 = .ok (.sipush 255, 3) := by decide +kernel
theorem d48_31 : decode jdk_52_method_86_code 31 = .ok (.iand, 1) := by decide +kernel
theorem d48_32 : decode jdk_52_method_86_code 32 = .ok (.invokestatic 111, 3) := by decide +kernel
theorem d48_35 : decode jdk_52_method_86_code 35 = .ok (.iinc 5 1, 3) := by decide +kernel
theorem d48_38 : decode jdk_52_method_86_code 38 = .ok (.goto (-28), 3) := by decide +kernel
theorem d48_41 : decode jdk_52_method_86_code 41 = .ok (.return_, 1) := by decide +kernel
abbrev y45 : MethodName := ⟨"java/lang/StringUTF16", "inflate", "([BI[BII)V"⟩
abbrev y45b : ByteArray := jdk_52_method_86_code
abbrev y45r : Option Jvm.ClassFile.FieldType := (Option.none : Option Jvm.ClassFile.FieldType)
theorem c70_inflate {Z a0} (hw : HW a0 Z) (hs : SF Z) {p1 p2 : Addr} {x1 : Int32} (hx1 : 0 ≤ x1.toInt ∧ x1.toInt ≤ 255) {x2 : Int32} (hx2 : 0 ≤ x2.toInt ∧ x2.toInt ≤ 255) {e_p2_4 e_p2_5 e_p1_2 : Value} {ad_p2 : String} {w_p1 : Bool} {ad_p1 : String} {F : List Ent} (mp1 : (p1, w_p1, ar ad_p1 .byte [(vi x1.toInt8.toInt32), (vi x2.toInt8.toInt32), e_p1_2]) ∈ F) : Con Z EL y45 y45b 6 y45r (rmm 3 0 0 43) [(vr p1), (vi 0), (vr p2), (vi 0), (vi 2)] ((p2, true, ar ad_p2 .byte [(vi 0), (vi 0), (vi 0), (vi 0), e_p2_4, e_p2_5]) :: F) (fun v D' => (v = none ∧ (p2, true, ar ad_p2 .byte [(vi x1.toInt8.toInt32), (vi (x1 >>> ((8 : Int32) &&& 31)).toInt8.toInt32), (vi x2.toInt8.toInt32), (vi (x2 >>> ((8 : Int32) &&& 31)).toInt8.toInt32), e_p2_4, e_p2_5]) :: F = D')) := by
  refine Con.of (ls := #[rv p1, iv 0, rv p2, iv 0, iv 2, uu]) (by decide +kernel) rfl ?_
  refine W.iloadN d48_0 rfl ?_
  refine W.iload d48_1 rfl ?_
  refine W.aloadN d48_3 rfl rfl ?_
  refine W.callS (as := [(vi 0), (vi 2), (vr p2)]) 0 [] d48_4 (wq hw 216 rfl) (wq hw 217 rfl) (wq hw 145 rfl) (wq hw 218 rfl) (c71_checkBoundsOffCount hw hs (hvs_p1 := rfl) (mp1 := m0)) (by decide) pd_II_B_V rfl rfl rfl rfl (by decide) (fun v D' h => ?_)
  obtain ⟨rfl, rfl⟩ := h
  show W _ _ _ _ _ _ _ _ _ _ _ _ 7 _ []
  refine W.iconst (0) d48_7 (by decide) ?_
  refine W.istore (ls' := #[rv p1, iv 0, rv p2, iv 0, iv 2, iv 0]) d48_8 rfl ?_
  refine W.iload d48_10 rfl ?_
  refine W.iload d48_12 rfl ?_
  refine W.icmpN d48_14 (n_ge (by decide)) ?_
  refine W.aloadN d48_17 rfl rfl ?_
  refine W.iloadN d48_18 rfl ?_
  refine W.iincK (ls' := #[rv p1, iv 0, rv p2, iv 1, iv 2, iv 0]) (1) (1 : Int32) d48_19 (by decide) rfl (by decide) rfl ?_
  refine W.aloadN d48_22 rfl rfl ?_
  refine W.iloadN d48_23 rfl ?_
  refine W.iincK (ls' := #[rv p1, iv 1, rv p2, iv 1, iv 2, iv 0]) (1) (1 : Int32) d48_24 (by decide) rfl (by decide) rfl ?_
  refine W.baload 0 d48_27 (mS mp1) ix0 rfl ?_
  refine W.sipush (255) d48_28 (by decide) ?_
  refine W.iandK x1 d48_31 (z_b255 hx1) ?_
  refine W.callS (as := [(vr p2), (vi 0), (vi x1)]) 0 [] d48_32 (wq hw 201 rfl) (wq hw 202 rfl) (wq hw 145 rfl) (wq hw 203 rfl) (c8_putChar hw hs (hx1 := (by omega))) (by decide) pd__BII_V rfl rfl rfl rfl (by decide) (fun v D' h => ?_)
  obtain ⟨rfl, rfl⟩ := h
  show W _ _ _ _ _ _ _ _ _ _ _ _ 35 _ []
  refine W.iincK (ls' := #[rv p1, iv 1, rv p2, iv 1, iv 2, iv 1]) (1) (1 : Int32) d48_35 (by decide) rfl (by decide) rfl ?_
  refine W.goto 10 d48_38 (by decide) ?_
  refine W.iload d48_10 rfl ?_
  refine W.iload d48_12 rfl ?_
  refine W.icmpN d48_14 (n_ge (by decide)) ?_
  refine W.aloadN d48_17 rfl rfl ?_
  refine W.iloadN d48_18 rfl ?_
  refine W.iincK (ls' := #[rv p1, iv 1, rv p2, iv 2, iv 2, iv 1]) (1) (2 : Int32) d48_19 (by decide) rfl (by decide) rfl ?_
  refine W.aloadN d48_22 rfl rfl ?_
  refine W.iloadN d48_23 rfl ?_
  refine W.iincK (ls' := #[rv p1, iv 2, rv p2, iv 2, iv 2, iv 1]) (1) (2 : Int32) d48_24 (by decide) rfl (by decide) rfl ?_
  refine W.baload 1 d48_27 (mS mp1) ix1 rfl ?_
  refine W.sipush (255) d48_28 (by decide) ?_
  refine W.iandK x2 d48_31 (z_b255 hx2) ?_
  refine W.callS (as := [(vr p2), (vi 1), (vi x2)]) 0 [] d48_32 (wq hw 201 rfl) (wq hw 202 rfl) (wq hw 145 rfl) (wq hw 203 rfl) (c9_putChar hw hs (hx1 := (by omega))) (by decide) pd__BII_V rfl rfl rfl rfl (by decide) (fun v D' h => ?_)
  obtain ⟨rfl, rfl⟩ := h
  show W _ _ _ _ _ _ _ _ _ _ _ _ 35 _ []
  refine W.iincK (ls' := #[rv p1, iv 2, rv p2, iv 2, iv 2, iv 2]) (1) (2 : Int32) d48_35 (by decide) rfl (by decide) rfl ?_
  refine W.goto 10 d48_38 (by decide) ?_
  refine W.iload d48_10 rfl ?_
  refine W.iload d48_12 rfl ?_
  refine W.icmpY 41 d48_14 (y_ge (by decide)) (by decide) ?_
  exact W.return_ d48_41 rfl (by decide) ⟨rfl, rfl⟩
theorem pd__BI_BII_V : parseMethodDescriptor "([BI[BII)V" = some ⟨[(.array .byte), .int, (.array .byte), .int, .int], none⟩ := by decide +kernel
theorem d47_9 : decode jdk_43_method_50_code 9 = .ok (.return_, 1) := by decide +kernel
abbrev y46 : MethodName := ⟨"java/lang/StringLatin1", "inflate", "([BI[BII)V"⟩
abbrev y46b : ByteArray := jdk_43_method_50_code
abbrev y46r : Option Jvm.ClassFile.FieldType := (Option.none : Option Jvm.ClassFile.FieldType)
theorem c69_inflate {Z a0} (hw : HW a0 Z) (hs : SF Z) {p1 p2 : Addr} {x1 : Int32} (hx1 : 0 ≤ x1.toInt ∧ x1.toInt ≤ 255) {x2 : Int32} (hx2 : 0 ≤ x2.toInt ∧ x2.toInt ≤ 255) {e_p2_4 e_p2_5 e_p1_2 : Value} {ad_p2 : String} {w_p1 : Bool} {ad_p1 : String} {F : List Ent} (mp1 : (p1, w_p1, ar ad_p1 .byte [(vi x1.toInt8.toInt32), (vi x2.toInt8.toInt32), e_p1_2]) ∈ F) : Con Z EL y46 y46b 5 y46r (rmm 4 0 0 60) [(vr p1), (vi 0), (vr p2), (vi 0), (vi 2)] ((p2, true, ar ad_p2 .byte [(vi 0), (vi 0), (vi 0), (vi 0), e_p2_4, e_p2_5]) :: F) (fun v D' => (v = none ∧ (p2, true, ar ad_p2 .byte [(vi x1.toInt8.toInt32), (vi (x1 >>> ((8 : Int32) &&& 31)).toInt8.toInt32), (vi x2.toInt8.toInt32), (vi (x2 >>> ((8 : Int32) &&& 31)).toInt8.toInt32), e_p2_4, e_p2_5]) :: F = D')) := by
  refine Con.of (ls := #[rv p1, iv 0, rv p2, iv 0, iv 2]) (by decide +kernel) rfl ?_
  refine W.aloadN d47_0 rfl rfl ?_
  refine W.iloadN d47_1 rfl ?_
  refine W.aloadN d47_2 rfl rfl ?_
  refine W.iloadN d47_3 rfl ?_
  refine W.iload d47_4 rfl ?_
  refine W.callS (as := [(vr p1), (vi 0), (vr p2), (vi 0), (vi 2)]) 0 [] d47_6 (wq hw 237 rfl) (wq hw 238 rfl) (wq hw 145 rfl) (wq hw 239 rfl) (c70_inflate hw hs (hx1 := hx1) (hx2 := hx2) (mp1 := mp1)) (by decide) pd__BI_BII_V rfl rfl rfl rfl (by decide) (fun v D' h => ?_)
  obtain ⟨rfl, rfl⟩ := h
  show W _ _ _ _ _ _ _ _ _ _ _ _ 9 _ []
  exact W.return_ d47_9 rfl (by decide) ⟨rfl, rfl⟩
theorem d46_31 : decode jdk_68_method_11_code 31 = .ok (.aload_n 0, 1) := by decide +kernel
theorem d46_32 : decode jdk_68_method_11_code 32 = .ok (.aload_n 1, 1) := by decide +kernel
theorem d46_33 : decode jdk_68_method_11_code 33 = .ok (.putfield 15, 3) := by decide +kernel
theorem d46_36 : decode jdk_68_method_11_code 36 = .ok (.aload_n 0, 1) := by decide +kernel
theorem d46_37 : decode jdk_68_method_11_code 37 = .ok (.iconst 1, 1) := by decide +kernel
theorem d46_38 : decode jdk_68_method_11_code 38 = .ok (.putfield 22, 3) := by decide +kernel
theorem d46_41 : decode jdk_68_method_11_code 41 = .ok (.return_, 1) := by decide +kernel
abbrev y47 : MethodName := ⟨"java/lang/AbstractStringBuilder", "inflate", "()V"⟩
abbrev y47b : ByteArray := jdk_68_method_11_code
abbrev y47r : Option Jvm.ClassFile.FieldType := (Option.none : Option Jvm.ClassFile.FieldType)
theorem c68_inflate {Z a0} (hw : HW a0 Z) (hs : SF Z) {p1 p2 : Addr} {x1 : Int32} (hx1 : 0 ≤ x1.toInt ∧ x1.toInt ≤ 255) {x2 : Int32} (hx2 : 0 ≤ x2.toInt ∧ x2.toInt ≤ 255) {f_p1_3 e_p2_2 : Value} {w_p2 : Bool} {ad_p2 : String} {F : List Ent} (mp2 : (p2, w_p2, ar ad_p2 .byte [(vi x1.toInt8.toInt32), (vi x2.toInt8.toInt32), e_p2_2]) ∈ F) : Con Z EL y47 y47b 2 y47r (rmm 5 1 6 76) [(vr p1)] ((p1, true, oStringBuilder (vr p2) (vi 0) (vi 2) f_p1_3) :: F) (fun v D' => (∃ a1 : Addr, v = none ∧ (a1, true, ar "[B" .byte [(vi x1.toInt8.toInt32), (vi (x1 >>> ((8 : Int32) &&& 31)).toInt8.toInt32), (vi x2.toInt8.toInt32), (vi (x2 >>> ((8 : Int32) &&& 31)).toInt8.toInt32), (vi 0), (vi 0)]) :: (p1, true, oStringBuilder (vr a1) (vi 1) (vi 2) f_p1_3) :: F = D')) := by
  refine Con.of (ls := #[rv p1, uu]) (by decide +kernel) rfl ?_
  refine W.aloadN d46_0 rfl rfl ?_
  refine W.callV (as := []) 0 [] d46_1 (wq hw 167 rfl) (wq hw 125 rfl) (wq hw 127 rfl) (wq hw 127 rfl) (wq hw 126 rfl) (wq hw 71 rfl) (wq hw 128 rfl) (Hp.exa m0) (c30_isLatin1 hw hs (mp1 := m0)) (by decide) pd__Z rfl rfl rfl rfl (by decide) (fun v D' h => ?_)
  obtain ⟨rfl, rfl⟩ := h
  show W _ _ _ _ _ _ _ _ _ _ _ _ 4 _ [(vi 1)]
  refine W.ifY 8 d46_4 (y_ne (by decide)) (by decide) ?_
  refine W.aloadN d46_8 rfl rfl ?_
  refine W.getf d46_9 (wq hw 75 rfl) Via.refl m0 m0 ?_
  refine W.alen (3) d46_12 (mS mp2) rfl ?_
  refine W.callS (as := [(vi 3)]) 0 [] d46_13 (wq hw 233 rfl) (wq hw 195 rfl) (wq hw 145 rfl) (wq hw 196 rfl) (c6_newBytesFor hw hs) (by decide) pd_I__B rfl rfl rfl rfl (by decide) (fun v D' h => ?_)
  obtain ⟨a1, rfl, rfl⟩ := h
  show W _ _ _ _ _ _ _ _ _ _ _ _ 16 _ [(vr a1)]
  refine W.astoreN (ls' := #[rv p1, rv a1]) d46_16 rfl rfl ?_
  refine W.aloadN d46_17 rfl rfl ?_
  refine W.getf d46_18 (wq hw 75 rfl) Via.refl m1 m0 ?_
  refine W.iconst (0) d46_21 (by decide) ?_
  refine W.aloadN d46_22 rfl rfl ?_
  refine W.iconst (0) d46_23 (by decide) ?_
  refine W.aloadN d46_24 rfl rfl ?_
  refine W.getf d46_25 (wq hw 122 rfl) Via.refl m1 m2 ?_
  refine W.callS (as := [(vr p2), (vi 0), (vr a1), (vi 0), (vi 2)]) 0 [] d46_28 (wq hw 234 rfl) (wq hw 235 rfl) (wq hw 91 rfl) (wq hw 236 rfl) (c69_inflate hw hs (hx1 := hx1) (hx2 := hx2) (mp1 := (mS mp2))) (by decide) pd__BI_BII_V rfl rfl rfl rfl (by decide) (fun v D' h => ?_)
  obtain ⟨rfl, rfl⟩ := h
  show W _ _ _ _ _ _ _ _ _ _ _ _ 31 _ []
  refine W.aloadN d46_31 rfl rfl ?_
  refine W.aloadN d46_32 rfl rfl ?_
  refine W.putf (D' := (a1, true, ar "[B" .byte [(vi x1.toInt8.toInt32), (vi (x1 >>> ((8 : Int32) &&& 31)).toInt8.toInt32), (vi x2.toInt8.toInt32), (vi (x2 >>> ((8 : Int32) &&& 31)).toInt8.toInt32), (vi 0), (vi 0)]) :: (p1, true, oStringBuilder (vr a1) (vi 0) (vi 2) f_p1_3) :: F) 1 0 d46_33 (wq hw 75 rfl) Via.refl rfl rfl (Or.inl (wq hw 76 rfl)) (wq hw 51 rfl) pf_B rfl rfl rfl ?_
  refine W.aloadN d46_36 rfl rfl ?_
  refine W.iconst (1) d46_37 (by decide) ?_
  refine W.putf (D' := (a1, true, ar "[B" .byte [(vi x1.toInt8.toInt32), (vi (x1 >>> ((8 : Int32) &&& 31)).toInt8.toInt32), (vi x2.toInt8.toInt32), (vi (x2 >>> ((8 : Int32) &&& 31)).toInt8.toInt32), (vi 0), (vi 0)]) :: (p1, true, oStringBuilder (vr a1) (vi 1) (vi 2) f_p1_3) :: F) 1 1 d46_38 (wq hw 77 rfl) Via.refl rfl rfl (Or.inl (wq hw 78 rfl)) (wq hw 51 rfl) pfB (nw_byte (by decide)) (ft_byte (by decide)) rfl ?_
  exact W.return_ d46_41 rfl (by decide) ⟨a1, rfl, rfl⟩
theorem d27_56 : decode jdk_68_method_31_code 56 = .ok (.aload_n 0, 1) := by decide +kernel
theorem d27_57 : decode jdk_68_method_31_code 57 = .ok (.getfield 15, 3) := by decide +kernel
theorem d27_60 : decode jdk_68_method_31_code 60 = .ok (.aload_n 0, 1) := by decide +kernel
theorem d27_61 : decode jdk_68_method_31_code 61 = .ok (.dup, 1) := by decide +kernel
theorem d27_62 : decode jdk_68_method_31_code 62 = .ok (.getfield 79, 3) := by decide +kernel
theorem d27_65 : decode jdk_68_method_31_code 65 = .ok (.dup_x1, 1) := by decide +kernel
theorem d27_66 : decode jdk_68_method_31_code 66 = .ok (.iconst 1, 1) := by decide +kernel
theorem d27_67 : decode jdk_68_method_31_code 67 = .ok (.iadd, 1) := by decide +kernel
theorem d27_68 : decode jdk_68_method_31_code 68 = .ok (.putfield 79, 3) := by decide +kernel
theorem d27_71 : decode jdk_68_method_31_code 71 = .ok (.iload_n 1, 1) := by decide +kernel
theorem d27_72 : decode jdk_68_method_31_code 72 = .ok (.invokestatic 197, 3) := by decide +kernel
theorem d49_0 : decode jdk_52_method_71_code 0 = .ok (.iload_n 1, 1) := by decide +kernel
theorem d49_1 : decode jdk_52_method_71_code 1 = .ok (.aload_n 0, 1) := by decide +kernel
theorem d49_2 : decode jdk_52_method_71_code 2 = .ok (.invokestatic 67, 3) := by decide +kernel
theorem d50_0 : decode jdk_52_method_91_code 0 = .ok (.iload_n 0, 1) := by decide +kernel
theorem d50_1 : decode jdk_52_method_91_code 1 = .ok (.aload_n 1, 1) := by decide +kernel
theorem d50_2 : decode jdk_52_method_91_code 2 = .ok (.invokestatic 48, 3) := by decide +kernel
theorem d50_5 : decode jdk_52_method_91_code 5 = .ok (.invokestatic 414, 3) := by decide +kernel
theorem d50_8 : decode jdk_52_method_91_code 8 = .ok (.return_, 1) := by decide +kernel
abbrev y48 : MethodName := ⟨"java/lang/StringUTF16", "checkIndex", "(I[B)V"⟩
abbrev y48b : ByteArray := jdk_52_method_91_code
abbrev y48r : Option Jvm.ClassFile.FieldType := (Option.none : Option Jvm.ClassFile.FieldType)
theorem c75_checkIndex {Z a0} (hw : HW a0 Z) (hs : SF Z) {p1 : Addr} {vs_p1 : List Value} (hvs_p1 : vs_p1.length = 6) {w_p1 : Bool} {ad_p1 : String} {F : List Ent} (mp1 : (p1, w_p1, ar ad_p1 .byte vs_p1) ∈ F) : Con Z EL y48 y48b 2 y48r (rmm 2 0 0 27) [(vi 2), (vr p1)] (F) (fun v D' => (v = none ∧ F = D')) := by
  refine Con.of (ls := #[iv 2, rv p1]) (by decide +kernel) rfl ?_
  refine W.iloadN d50_0 rfl ?_
  refine W.aloadN d50_1 rfl rfl ?_
  refine W.callS (as := [(vr p1)]) 1 [(vi 2)] d50_2 (wq hw 219 rfl) (wq hw 220 rfl) (wq hw 145 rfl) (wq hw 221 rfl) (c62_length hw hs (hvs_p1 := hvs_p1) (mp1 := mp1)) (by decide) pd__B_I rfl rfl rfl rfl (by decide) (fun v D' h => ?_)
  obtain ⟨rfl, rfl⟩ := h
  show W _ _ _ _ _ _ _ _ _ _ _ _ 5 _ [(vi 3), (vi 2)]
  refine W.callS (as := [(vi 2), (vi 3)]) 0 [] d50_5 (wq hw 246 rfl) (wq hw 180 rfl) (wq hw 3 rfl) (wq hw 181 rfl) (c47_checkIndex hw hs (hr0 := by have := q0; have := q2; omega) (hr1 := by have := q2; have := q3; omega)) (by decide) pd_II_V rfl rfl rfl rfl (by decide) (fun v D' h => ?_)
  obtain ⟨rfl, rfl⟩ := h
  show W _ _ _ _ _ _ _ _ _ _ _ _ 8 _ []
  exact W.return_ d50_8 rfl (by decide) ⟨rfl, rfl⟩
theorem pd_I_B_V : parseMethodDescriptor "(I[B)V" = some ⟨[.int, (.array .byte)], none⟩ := by decide +kernel
theorem d49_5 : decode jdk_52_method_71_code 5 = .ok (.aload_n 0, 1) := by decide +kernel
theorem d49_6 : decode jdk_52_method_71_code 6 = .ok (.iload_n 1, 1) := by decide +kernel
theorem d49_7 : decode jdk_52_method_71_code 7 = .ok (.iload_n 2, 1) := by decide +kernel
theorem d49_8 : decode jdk_52_method_71_code 8 = .ok (.invokestatic 111, 3) := by decide +kernel
theorem d49_11 : decode jdk_52_method_71_code 11 = .ok (.return_, 1) := by decide +kernel
abbrev y49 : MethodName := ⟨"java/lang/StringUTF16", "putCharSB", "([BII)V"⟩
abbrev y49b : ByteArray := jdk_52_method_71_code
abbrev y49r : Option Jvm.ClassFile.FieldType := (Option.none : Option Jvm.ClassFile.FieldType)
theorem c74_putCharSB {Z a0} (hw : HW a0 Z) (hs : SF Z) {p1 : Addr} {x1 : Int32} (hx1 : 0 ≤ x1.toInt ∧ x1.toInt ≤ 65535) {e_p1_0 e_p1_1 e_p1_2 e_p1_3 : Value} {ad_p1 : String} {F : List Ent} : Con Z EL y49 y49b 3 y49r (rmm 3 0 0 40) [(vr p1), (vi 2), (vi x1)] ((p1, true, ar ad_p1 .byte [e_p1_0, e_p1_1, e_p1_2, e_p1_3, (vi 0), (vi 0)]) :: F) (fun v D' => (v = none ∧ (p1, true, ar ad_p1 .byte [e_p1_0, e_p1_1, e_p1_2, e_p1_3, (vi x1.toInt8.toInt32), (vi (x1 >>> ((8 : Int32) &&& 31)).toInt8.toInt32)]) :: F = D')) := by
  refine Con.of (ls := #[rv p1, iv 2, iv x1]) (by decide +kernel) rfl ?_
  refine W.iloadN d49_0 rfl ?_
  refine W.aloadN d49_1 rfl rfl ?_
  refine W.callS (as := [(vi 2), (vr p1)]) 0 [] d49_2 (wq hw 243 rfl) (wq hw 244 rfl) (wq hw 145 rfl) (wq hw 245 rfl) (c75_checkIndex hw hs (hvs_p1 := rfl) (mp1 := m0)) (by decide) pd_I_B_V rfl rfl rfl rfl (by decide) (fun v D' h => ?_)
  obtain ⟨rfl, rfl⟩ := h
  show W _ _ _ _ _ _ _ _ _ _ _ _ 5 _ []
  refine W.aloadN d49_5 rfl rfl ?_
  refine W.iloadN d49_6 rfl ?_
  refine W.iloadN d49_7 rfl ?_
  refine W.callS (as := [(vr p1), (vi 2), (vi x1)]) 0 [] d49_8 (wq hw 201 rfl) (wq hw 202 rfl) (wq hw 145 rfl) (wq hw 203 rfl) (c10_putChar hw hs (hx1 := hx1)) (by decide) pd__BII_V rfl rfl rfl rfl (by decide) (fun v D' h => ?_)
  obtain ⟨rfl, rfl⟩ := h
  show W _ _ _ _ _ _ _ _ _ _ _ _ 11 _ []
  exact W.return_ d49_11 rfl (by decide) ⟨rfl, rfl⟩
theorem c66_append {Z a0} (hw : HW a0 Z) (hs : SF Z) {p1 p2 : Addr} {x1 : Int32} (hx1 : 256 ≤ x1.toInt ∧ x1.toInt ≤ 65535) {x2 : Int32} (hx2 : 0 ≤ x2.toInt ∧ x2.toInt ≤ 255) {x3 : Int32} (hx3 : 0 ≤ x3.toInt ∧ x3.toInt ≤ 255) {f_p1_3 e_p2_2 : Value} {w_p2 : Bool} {ad_p2 : String} {F : List Ent} (mp2 : (p2, w_p2, ar ad_p2 .byte [(vi x2.toInt8.toInt32), (vi x3.toInt8.toInt32), e_p2_2]) ∈ F) : Con Z EL y24 y24b 2 y24r (rmm 6 1 6 89) [(vr p1), (vi x1)] ((p1, true, oStringBuilder (vr p2) (vi 0) (vi 2) f_p1_3) :: F) (fun v D' => (∃ a1 : Addr, v = some (vr p1) ∧ (a1, true, ar "[B" .byte [(vi x2.toInt8.toInt32), (vi (x2 >>> ((8 : Int32) &&& 31)).toInt8.toInt32), (vi x3.toInt8.toInt32), (vi (x3 >>> ((8 : Int32) &&& 31)).toInt8.toInt32), (vi x1.toInt8.toInt32), (vi (x1 >>> ((8 : Int32) &&& 31)).toInt8.toInt32)]) :: (p1, true, oStringBuilder (vr a1) (vi 1) (vi 3) f_p1_3) :: F = D')) := by
  refine Con.of (ls := #[rv p1, iv x1]) (by decide +kernel) rfl ?_
  refine W.aloadN d27_0 rfl rfl ?_
  refine W.aloadN d27_1 rfl rfl ?_
  refine W.getf d27_2 (wq hw 122 rfl) Via.refl m0 m2 ?_
  refine W.iconst (1) d27_5 (by decide) ?_
  refine W.iaddK (3 : Int32) d27_6 (by decide) ?_
  refine W.callP (as := [(vi 3)]) 0 [] d27_7 (wq hw 162 rfl) (wq hw 163 rfl) (wq hw 165 rfl) (wq hw 164 rfl) (wq hw 71 rfl) (wq hw 166 rfl) (Hp.exa m0) (c37_ensureCapacityInternal hw hs (hvs_p2 := rfl) (mp1 := m0) (mp2 := (mS mp2))) (by decide) pd_I_V rfl rfl rfl rfl (by decide) (fun v D' h => ?_)
  obtain ⟨rfl, rfl⟩ := h
  show W _ _ _ _ _ _ _ _ _ _ _ _ 10 _ []
  refine W.aloadN d27_10 rfl rfl ?_
  refine W.callV (as := []) 0 [] d27_11 (wq hw 167 rfl) (wq hw 125 rfl) (wq hw 127 rfl) (wq hw 127 rfl) (wq hw 126 rfl) (wq hw 71 rfl) (wq hw 128 rfl) (Hp.exa m0) (c30_isLatin1 hw hs (mp1 := m0)) (by decide) pd__Z rfl rfl rfl rfl (by decide) (fun v D' h => ?_)
  obtain ⟨rfl, rfl⟩ := h
  show W _ _ _ _ _ _ _ _ _ _ _ _ 14 _ [(vi 1)]
  refine W.ifN d27_14 (n_eq (by decide)) ?_
  refine W.iloadN d27_17 rfl ?_
  refine W.callS (as := [(vi x1)]) 0 [] d27_18 (wq hw 168 rfl) (wq hw 169 rfl) (wq hw 91 rfl) (wq hw 170 rfl) (c67_canEncode hw hs (hx1 := hx1)) (by decide) pd_C_Z rfl rfl rfl rfl (by decide) (fun v D' h => ?_)
  obtain ⟨rfl, rfl⟩ := h
  show W _ _ _ _ _ _ _ _ _ _ _ _ 21 _ [(vi 0)]
  refine W.ifY 45 d27_21 (y_eq (by decide)) (by decide) ?_
  refine W.aloadN d27_45 rfl rfl ?_
  refine W.callV (as := []) 0 [] d27_46 (wq hw 167 rfl) (wq hw 125 rfl) (wq hw 127 rfl) (wq hw 127 rfl) (wq hw 126 rfl) (wq hw 71 rfl) (wq hw 128 rfl) (Hp.exa m0) (c30_isLatin1 hw hs (mp1 := m0)) (by decide) pd__Z rfl rfl rfl rfl (by decide) (fun v D' h => ?_)
  obtain ⟨rfl, rfl⟩ := h
  show W _ _ _ _ _ _ _ _ _ _ _ _ 49 _ [(vi 1)]
  refine W.ifN d27_49 (n_eq (by decide)) ?_
  refine W.aloadN d27_52 rfl rfl ?_
  refine W.callP (as := []) 0 [] d27_53 (wq hw 228 rfl) (wq hw 229 rfl) (wq hw 231 rfl) (wq hw 230 rfl) (wq hw 71 rfl) (wq hw 232 rfl) (Hp.exa m0) (c68_inflate hw hs (hx1 := hx2) (hx2 := hx3) (mp2 := mp2)) (by decide) pd__V rfl rfl rfl rfl (by decide) (fun v D' h => ?_)
  obtain ⟨a1, rfl, rfl⟩ := h
  show W _ _ _ _ _ _ _ _ _ _ _ _ 56 _ []
  refine W.aloadN d27_56 rfl rfl ?_
  refine W.getf d27_57 (wq hw 75 rfl) Via.refl m1 m0 ?_
  refine W.aloadN d27_60 rfl rfl ?_
  refine W.dup d27_61 rfl ?_
  refine W.getf d27_62 (wq hw 122 rfl) Via.refl m1 m2 ?_
  refine W.dupX1 d27_65 rfl rfl ?_
  refine W.iconst (1) d27_66 (by decide) ?_
  refine W.iaddK (3 : Int32) d27_67 (by decide) ?_
  refine W.putf (D' := (a1, true, ar "[B" .byte [(vi x2.toInt8.toInt32), (vi (x2 >>> ((8 : Int32) &&& 31)).toInt8.toInt32), (vi x3.toInt8.toInt32), (vi (x3 >>> ((8 : Int32) &&& 31)).toInt8.toInt32), (vi 0), (vi 0)]) :: (p1, true, oStringBuilder (vr a1) (vi 1) (vi 3) f_p1_3) :: F) 1 2 d27_68 (wq hw 122 rfl) Via.refl rfl rfl (Or.inl (wq hw 123 rfl)) (wq hw 51 rfl) pfI rfl rfl rfl ?_
  refine W.iloadN d27_71 rfl ?_
  refine W.callS (as := [(vr a1), (vi 2), (vi x1)]) 0 [] d27_72 (wq hw 240 rfl) (wq hw 241 rfl) (wq hw 145 rfl) (wq hw 242 rfl) (c74_putCharSB hw hs (hx1 := (by omega))) (by decide) pd__BII_V rfl rfl rfl rfl (by decide) (fun v D' h => ?_)
  obtain ⟨rfl, rfl⟩ := h
  show W _ _ _ _ _ _ _ _ _ _ _ _ 75 _ []
  refine W.aloadN d27_75 rfl rfl ?_
  exact W.areturn d27_76 rfl rfl rfl (by decide) ⟨a1, rfl, rfl⟩
theorem c65_append {Z a0} (hw : HW a0 Z) (hs : SF Z) {p1 p2 : Addr} {x1 : Int32} (hx1 : 256 ≤ x1.toInt ∧ x1.toInt ≤ 65535) {x2 : Int32} (hx2 : 0 ≤ x2.toInt ∧ x2.toInt ≤ 255) {x3 : Int32} (hx3 : 0 ≤ x3.toInt ∧ x3.toInt ≤ 255) {f_p1_3 e_p2_2 : Value} {w_p2 : Bool} {ad_p2 : String} {F : List Ent} (mp2 : (p2, w_p2, ar ad_p2 .byte [(vi x2.toInt8.toInt32), (vi x3.toInt8.toInt32), e_p2_2]) ∈ F) : Con Z EL y25 y25b 2 y25r (rmm 7 1 6 102) [(vr p1), (vi x1)] ((p1, true, oStringBuilder (vr p2) (vi 0) (vi 2) f_p1_3) :: F) (fun v D' => (∃ a1 : Addr, v = some (vr p1) ∧ (a1, true, ar "[B" .byte [(vi x2.toInt8.toInt32), (vi (x2 >>> ((8 : Int32) &&& 31)).toInt8.toInt32), (vi x3.toInt8.toInt32), (vi (x3 >>> ((8 : Int32) &&& 31)).toInt8.toInt32), (vi x1.toInt8.toInt32), (vi (x1 >>> ((8 : Int32) &&& 31)).toInt8.toInt32)]) :: (p1, true, oStringBuilder (vr a1) (vi 1) (vi 3) f_p1_3) :: F = D')) := by
  refine Con.of (ls := #[rv p1, iv x1]) (by decide +kernel) rfl ?_
  refine W.aloadN d26_0 rfl rfl ?_
  refine W.iloadN d26_1 rfl ?_
  refine W.callUp (as := [(vi x1)]) 0 [] d26_2 (wq hw 158 rfl) (same_self (by rfl) (by decide) (wq hw 159 rfl) (wq hw 110 rfl) (wq hw 111 rfl)) (wq hw 159 rfl) (wq hw 120 rfl) (by decide) (wq hw 71 rfl) (wq hw 161 rfl) (Hp.ins m0) (c66_append hw hs (hx1 := hx1) (hx2 := hx2) (hx3 := hx3) (mp2 := mp2)) pd_C_Ljava_lang_AbstractStringBuilder_ rfl rfl rfl rfl (by decide) (fun v D' h => ?_)
  obtain ⟨a1, rfl, rfl⟩ := h
  show W _ _ _ _ _ _ _ _ _ _ _ _ 5 _ [(vr p1)]
  refine W.popv d26_5 rfl ?_
  refine W.aloadN d26_6 rfl rfl ?_
  exact W.areturn d26_7 rfl rfl rfl (by decide) ⟨a1, rfl, rfl⟩
theorem d21_17 : decode jdk_68_method_68_code 17 = .ok (.iconst 0, 1) := by decide +kernel
theorem c79_isLatin1 {Z a0} (hw : HW a0 Z) (hs : SF Z) {p1 : Addr} {f_p1_0 f_p1_2 f_p1_3 : Value} {w_p1 : Bool} {F : List Ent} (mp1 : (p1, w_p1, oStringBuilder f_p1_0 (vi 1) f_p1_2 f_p1_3) ∈ F) : Con Z EL y22 y22b 1 y22r (rmm 0 0 0 0) [(vr p1)] (F) (fun v D' => (v = some (vi 0) ∧ F = D')) := by
  refine Con.of (ls := #[rv p1]) (by decide +kernel) rfl ?_
  refine W.gets d21_0 (wq hw 74 rfl) Via.refl hs.1 ?_
  refine W.ifN d21_3 (n_eq (by have := hs.2.1; have := q0; omega)) ?_
  refine W.aloadN d21_6 rfl rfl ?_
  refine W.getf d21_7 (wq hw 77 rfl) Via.refl mp1 m1 ?_
  refine W.ifY 17 d21_10 (y_ne (by decide)) (by decide) ?_
  refine W.iconst (0) d21_17 (by decide) ?_
  exact W.ireturn d21_18 rfl (Or.inr (Or.inl rfl)) (nw_bool (by decide)) (by decide) ⟨rfl, rfl⟩
theorem d17_41 : decode jdk_42_method_150_code 41 = .ok (.getstatic 38, 3) := by decide +kernel
theorem d17_44 : decode jdk_42_method_150_code 44 = .ok (.ifCond .eq 35, 3) := by decide +kernel
theorem d17_47 : decode jdk_42_method_150_code 47 = .ok (.aload_n 1, 1) := by decide +kernel
theorem d17_48 : decode jdk_42_method_150_code 48 = .ok (.getfield 1048, 3) := by decide +kernel
theorem d17_51 : decode jdk_42_method_150_code 51 = .ok (.ifCond .eq 28, 3) := by decide +kernel
theorem d17_79 : decode jdk_42_method_150_code 79 = .ok (.aload_n 0, 1) := by decide +kernel
theorem d17_80 : decode jdk_42_method_150_code 80 = .ok (.iconst 1, 1) := by decide +kernel
theorem d17_81 : decode jdk_42_method_150_code 81 = .ok (.putfield 15, 3) := by decide +kernel
theorem d17_84 : decode jdk_42_method_150_code 84 = .ok (.aload_n 0, 1) := by decide +kernel
theorem d17_85 : decode jdk_42_method_150_code 85 = .ok (.aload_n 3, 1) := by decide +kernel
theorem d17_86 : decode jdk_42_method_150_code 86 = .ok (.iconst 0, 1) := by decide +kernel
theorem d17_87 : decode jdk_42_method_150_code 87 = .ok (.iload 4, 2) := by decide +kernel
theorem d17_89 : decode jdk_42_method_150_code 89 = .ok (.iconst 1, 1) := by decide +kernel
theorem d17_90 : decode jdk_42_method_150_code 90 = .ok (.ishl, 1) := by decide +kernel
theorem d17_91 : decode jdk_42_method_150_code 91 = .ok (.invokestatic 54, 3) := by decide +kernel
theorem c80_copyOfRange {Z a0} (hw : HW a0 Z) (hs : SF Z) {p1 : Addr} {x1 : Int32} (hx1 : 0 ≤ x1.toInt ∧ x1.toInt ≤ 255) {x2 : Int32} (hx2 : 0 ≤ x2.toInt ∧ x2.toInt ≤ 255) {x3 : Int32} (hx3 : 256 ≤ x3.toInt ∧ x3.toInt ≤ 65535) {w_p1 : Bool} {F : List Ent} (mp1 : (p1, w_p1, ar "[B" .byte [(vi x1.toInt8.toInt32), (vi (x1 >>> ((8 : Int32) &&& 31)).toInt8.toInt32), (vi x2.toInt8.toInt32), (vi (x2 >>> ((8 : Int32) &&& 31)).toInt8.toInt32), (vi x3.toInt8.toInt32), (vi (x3 >>> ((8 : Int32) &&& 31)).toInt8.toInt32)]) ∈ F) : Con Z EL y29 y29b 3 y29r (rmm 1 1 6 14) [(vr p1), (vi 0), (vi 6)] (F) (fun v D' => (∃ a1 : Addr, v = some (vr a1) ∧ (a1, true, ar "[B" .byte [(vi x1.toInt8.toInt32), (vi (x1 >>> ((8 : Int32) &&& 31)).toInt8.toInt32), (vi x2.toInt8.toInt32), (vi (x2 >>> ((8 : Int32) &&& 31)).toInt8.toInt32), (vi x3.toInt8.toInt32), (vi (x3 >>> ((8 : Int32) &&& 31)).toInt8.toInt32)]) :: F = D')) := by
  refine Con.of (ls := #[rv p1, iv 0, iv 6]) (by decide +kernel) rfl ?_
  refine W.iloadN d22_0 rfl ?_
  refine W.ifN d22_1 (n_ne (by decide)) ?_
  refine W.iloadN d22_4 rfl ?_
  refine W.aloadN d22_5 rfl rfl ?_
  refine W.alen (6) d22_6 mp1 rfl ?_
  refine W.icmpY 17 d22_7 (y_eq (by decide)) (by decide) ?_
  refine W.aloadN d22_17 rfl rfl ?_
  refine W.clone 0 6 d22_18 (wq hw 133 rfl) (wq hw 134 rfl) (wq hw 138 rfl) (wq hw 136 rfl) (wq hw 137 rfl) (wq hw 139 rfl) mp1 (by decide) rfl rfl rfl (by decide) (fun a1 => ?_)
  show W _ _ _ _ _ _ _ _ _ _ _ _ 21 _ [(vr a1)]
  refine W.castY d22_21 (wq hw 140 rfl) (Hp.insA m0 (by decide)) ?_
  exact W.areturn d22_24 rfl rfl rfl (by decide) ⟨a1, rfl, rfl⟩
theorem d17_94 : decode jdk_42_method_150_code 94 = .ok (.putfield 9, 3) := by decide +kernel
theorem c78_init {Z a0} (hw : HW a0 Z) (hs : SF Z) {p1 p2 p3 : Addr} {x1 : Int32} (hx1 : 0 ≤ x1.toInt ∧ x1.toInt ≤ 255) {x2 : Int32} (hx2 : 0 ≤ x2.toInt ∧ x2.toInt ≤ 255) {x3 : Int32} (hx3 : 256 ≤ x3.toInt ∧ x3.toInt ≤ 65535) {w_p2 : Bool} {w_p3 : Bool} {F : List Ent} (mp2 : (p2, w_p2, oStringBuilder (vr p3) (vi 1) (vi 3) (vi 0)) ∈ F) (mp3 : (p3, w_p3, ar "[B" .byte [(vi x1.toInt8.toInt32), (vi (x1 >>> ((8 : Int32) &&& 31)).toInt8.toInt32), (vi x2.toInt8.toInt32), (vi (x2 >>> ((8 : Int32) &&& 31)).toInt8.toInt32), (vi x3.toInt8.toInt32), (vi (x3 >>> ((8 : Int32) &&& 31)).toInt8.toInt32)]) ∈ F) : Con Z EL y30 y30b 5 y30r (rmm 2 1 6 29) [(vr p1), (vr p2), .null] ((p1, true, oString .null (vi 0)) :: F) (fun v D' => (∃ a1 : Addr, v = none ∧ (a1, true, ar "[B" .byte [(vi x1.toInt8.toInt32), (vi (x1 >>> ((8 : Int32) &&& 31)).toInt8.toInt32), (vi x2.toInt8.toInt32), (vi (x2 >>> ((8 : Int32) &&& 31)).toInt8.toInt32), (vi x3.toInt8.toInt32), (vi (x3 >>> ((8 : Int32) &&& 31)).toInt8.toInt32)]) :: (p1, true, oString (vr a1) (vi 1)) :: F = D')) := by
  refine Con.of (ls := #[rv p1, rv p2, .val .null, uu, uu]) (by decide +kernel) rfl ?_
  refine W.aloadN d17_0 rfl rfl ?_
  refine W.initO 0 d17_1 (wq hw 11 rfl) (wq hw 12 rfl) (wq hw 13 rfl) rfl rfl (by decide) ?_
  refine W.aloadN d17_4 rfl rfl ?_
  refine W.callV (as := []) 0 [] d17_5 (wq hw 108 rfl) (wq hw 109 rfl) (wq hw 111 rfl) (wq hw 111 rfl) (wq hw 110 rfl) (wq hw 71 rfl) (wq hw 112 rfl) (Hp.exa (mS mp2)) (c41_getValue hw hs (mp1 := (mS mp2))) (by decide) pd___B rfl rfl rfl rfl (by decide) (fun v D' h => ?_)
  obtain ⟨rfl, rfl⟩ := h
  show W _ _ _ _ _ _ _ _ _ _ _ _ 8 _ [(vr p3)]
  refine W.astoreN (ls' := #[rv p1, rv p2, .val .null, rv p3, uu]) d17_8 rfl rfl ?_
  refine W.aloadN d17_9 rfl rfl ?_
  refine W.callVN (as := []) 0 [] d17_10 (wq hw 113 rfl) (wq hw 114 rfl) (by rfl) (wq hw 110 rfl) (wq hw 111 rfl) (wq hw 116 rfl) (wq hw 117 rfl) (wq hw 52 rfl) (wq hw 118 rfl) (Hp.exa (mS mp2)) (c42_length hw hs (mp1 := (mS mp2))) (by decide) pd__I rfl rfl rfl rfl (by decide) (fun v D' h => ?_)
  obtain ⟨rfl, rfl⟩ := h
  show W _ _ _ _ _ _ _ _ _ _ _ _ 13 _ [(vi 3)]
  refine W.istore (ls' := #[rv p1, rv p2, .val .null, rv p3, iv 3]) d17_13 rfl ?_
  refine W.aloadN d17_15 rfl rfl ?_
  refine W.callV (as := []) 0 [] d17_16 (wq hw 124 rfl) (wq hw 125 rfl) (wq hw 127 rfl) (wq hw 127 rfl) (wq hw 126 rfl) (wq hw 71 rfl) (wq hw 128 rfl) (Hp.exa (mS mp2)) (c79_isLatin1 hw hs (mp1 := (mS mp2))) (by decide) pd__Z rfl rfl rfl rfl (by decide) (fun v D' h => ?_)
  obtain ⟨rfl, rfl⟩ := h
  show W _ _ _ _ _ _ _ _ _ _ _ _ 19 _ [(vi 0)]
  refine W.ifY 41 d17_19 (y_eq (by decide)) (by decide) ?_
  refine W.gets d17_41 (wq hw 63 rfl) Via.refl hs.1 ?_
  refine W.ifN d17_44 (n_eq (by have := hs.2.1; have := q0; omega)) ?_
  refine W.aloadN d17_47 rfl rfl ?_
  refine W.getf d17_48 (wq hw 247 rfl) Via.refl (mS mp2) m3 ?_
  refine W.ifY 79 d17_51 (y_eq (by decide)) (by decide) ?_
  refine W.aloadN d17_79 rfl rfl ?_
  refine W.iconst (1) d17_80 (by decide) ?_
  refine W.putf (D' := (p1, true, oString .null (vi 1)) :: F) 0 1 d17_81 (wq hw 21 rfl) Via.refl rfl rfl (Or.inr ⟨(wq hw 17 rfl), rfl, rfl⟩) (wq hw 2 rfl) pfB (nw_byte (by decide)) (ft_byte (by decide)) rfl ?_
  refine W.aloadN d17_84 rfl rfl ?_
  refine W.aloadN d17_85 rfl rfl ?_
  refine W.iconst (0) d17_86 (by decide) ?_
  refine W.iload d17_87 rfl ?_
  refine W.iconst (1) d17_89 (by decide) ?_
  refine W.ishlK (6 : Int32) d17_90 (by decide) ?_
  refine W.callS (as := [(vr p3), (vi 0), (vi 6)]) 1 [(vr p1)] d17_91 (wq hw 129 rfl) (wq hw 130 rfl) (wq hw 131 rfl) (wq hw 132 rfl) (c80_copyOfRange hw hs (hx1 := hx1) (hx2 := hx2) (hx3 := hx3) (mp1 := (mS mp3))) (by decide) pd__BII__B rfl rfl rfl rfl (by decide) (fun v D' h => ?_)
  obtain ⟨a1, rfl, rfl⟩ := h
  show W _ _ _ _ _ _ _ _ _ _ _ _ 94 _ [(vr a1), (vr p1)]
  refine W.putf (D' := (a1, true, ar "[B" .byte [(vi x1.toInt8.toInt32), (vi (x1 >>> ((8 : Int32) &&& 31)).toInt8.toInt32), (vi x2.toInt8.toInt32), (vi (x2 >>> ((8 : Int32) &&& 31)).toInt8.toInt32), (vi x3.toInt8.toInt32), (vi (x3 >>> ((8 : Int32) &&& 31)).toInt8.toInt32)]) :: (p1, true, oString (vr a1) (vi 1)) :: F) 1 0 d17_94 (wq hw 20 rfl) Via.refl rfl rfl (Or.inr ⟨(wq hw 16 rfl), rfl, rfl⟩) (wq hw 2 rfl) pf_B rfl rfl rfl ?_
  exact W.return_ d17_97 rfl (by decide) ⟨a1, rfl, rfl⟩
theorem c77_init {Z a0} (hw : HW a0 Z) (hs : SF Z) {p1 p2 p3 : Addr} {x1 : Int32} (hx1 : 0 ≤ x1.toInt ∧ x1.toInt ≤ 255) {x2 : Int32} (hx2 : 0 ≤ x2.toInt ∧ x2.toInt ≤ 255) {x3 : Int32} (hx3 : 256 ≤ x3.toInt ∧ x3.toInt ≤ 65535) {w_p2 : Bool} {w_p3 : Bool} {F : List Ent} (mp2 : (p2, w_p2, oStringBuilder (vr p3) (vi 1) (vi 3) (vi 0)) ∈ F) (mp3 : (p3, w_p3, ar "[B" .byte [(vi x1.toInt8.toInt32), (vi (x1 >>> ((8 : Int32) &&& 31)).toInt8.toInt32), (vi x2.toInt8.toInt32), (vi (x2 >>> ((8 : Int32) &&& 31)).toInt8.toInt32), (vi x3.toInt8.toInt32), (vi (x3 >>> ((8 : Int32) &&& 31)).toInt8.toInt32)]) ∈ F) : Con Z EL y31 y31b 2 y31r (rmm 3 1 6 45) [(vr p1), (vr p2)] ((p1, true, oString .null (vi 0)) :: F) (fun v D' => (∃ a1 : Addr, v = none ∧ (a1, true, ar "[B" .byte [(vi x1.toInt8.toInt32), (vi (x1 >>> ((8 : Int32) &&& 31)).toInt8.toInt32), (vi x2.toInt8.toInt32), (vi (x2 >>> ((8 : Int32) &&& 31)).toInt8.toInt32), (vi x3.toInt8.toInt32), (vi (x3 >>> ((8 : Int32) &&& 31)).toInt8.toInt32)]) :: (p1, true, oString (vr a1) (vi 1)) :: F = D')) := by
  refine Con.of (ls := #[rv p1, rv p2]) (by decide +kernel) rfl ?_
  refine W.aloadN d16_0 rfl rfl ?_
  refine W.aloadN d16_1 rfl rfl ?_
  refine W.aconstNull d16_2 ?_
  refine W.callI (as := [(vr p2), .null]) 0 [] d16_3 rfl (wq hw 105 rfl) (wq hw 106 rfl) (wq hw 3 rfl) (wq hw 107 rfl) (c78_init hw hs (hx1 := hx1) (hx2 := hx2) (hx3 := hx3) (mp2 := mp2) (mp3 := mp3)) (by decide) pd_Ljava_lang_AbstractStringBuilder_Ljava_lang_Void__V rfl rfl rfl rfl (by decide) (fun v D' h => ?_)
  obtain ⟨a1, rfl, rfl⟩ := h
  show W _ _ _ _ _ _ _ _ _ _ _ _ 6 _ []
  exact W.return_ d16_6 rfl (by decide) ⟨a1, rfl, rfl⟩
theorem c76_toString {Z a0} (hw : HW a0 Z) (hs : SF Z) {p1 p2 : Addr} {x1 : Int32} (hx1 : 0 ≤ x1.toInt ∧ x1.toInt ≤ 255) {x2 : Int32} (hx2 : 0 ≤ x2.toInt ∧ x2.toInt ≤ 255) {x3 : Int32} (hx3 : 256 ≤ x3.toInt ∧ x3.toInt ≤ 65535) {w_p1 : Bool} {w_p2 : Bool} {F : List Ent} (mp1 : (p1, w_p1, oStringBuilder (vr p2) (vi 1) (vi 3) (vi 0)) ∈ F) (mp2 : (p2, w_p2, ar "[B" .byte [(vi x1.toInt8.toInt32), (vi (x1 >>> ((8 : Int32) &&& 31)).toInt8.toInt32), (vi x2.toInt8.toInt32), (vi (x2 >>> ((8 : Int32) &&& 31)).toInt8.toInt32), (vi x3.toInt8.toInt32), (vi (x3 >>> ((8 : Int32) &&& 31)).toInt8.toInt32)]) ∈ F) : Con Z EL y32 y32b 1 y32r (rmm 4 2 10 59) [(vr p1)] (F) (fun v D' => (∃ a1 a2 : Addr, v = some (vr a1) ∧ (a2, true, ar "[B" .byte [(vi x1.toInt8.toInt32), (vi (x1 >>> ((8 : Int32) &&& 31)).toInt8.toInt32), (vi x2.toInt8.toInt32), (vi (x2 >>> ((8 : Int32) &&& 31)).toInt8.toInt32), (vi x3.toInt8.toInt32), (vi (x3 >>> ((8 : Int32) &&& 31)).toInt8.toInt32)]) :: (a1, true, oString (vr a2) (vi 1)) :: F = D')) := by
  refine Con.of (ls := #[rv p1]) (by decide +kernel) rfl ?_
  refine W.new d15_0 (wq hw 101 rfl) (wq hw 2 rfl) (wq hw 3 rfl) (laString hw) (by decide) (by decide) (fun a1 => ?_)
  show W _ _ _ _ _ _ _ _ _ _ _ _ 3 _ [(vr a1)]
  refine W.dup d15_3 rfl ?_
  refine W.aloadN d15_4 rfl rfl ?_
  refine W.callI (as := [(vr p1)]) 1 [(vr a1)] d15_5 rfl (wq hw 102 rfl) (wq hw 103 rfl) (wq hw 3 rfl) (wq hw 104 rfl) (c77_init hw hs (hx1 := hx1) (hx2 := hx2) (hx3 := hx3) (mp2 := mp1) (mp3 := mp2)) (by decide) pd_Ljava_lang_StringBuilder__V rfl rfl rfl rfl (by decide) (fun v D' h => ?_)
  obtain ⟨a2, rfl, rfl⟩ := h
  show W _ _ _ _ _ _ _ _ _ _ _ _ 8 _ [(vr a1)]
  exact W.areturn d15_8 rfl rfl rfl (by decide) ⟨a1, a2, rfl, rfl⟩
theorem c54_lowerCase {Z a0} (hw : HW a0 Z) (hs : SF Z) {p1 p2 p3 : Addr} {x2 : Int32} (hx2 : 0 ≤ x2.toInt ∧ x2.toInt ≤ 255) {x3 : Int32} (hx3 : 0 ≤ x3.toInt ∧ x3.toInt ≤ 255) {x4 : Int32} (hx4 : 256 ≤ x4.toInt ∧ x4.toInt ≤ 65535) {f_p1_0 f_p1_2 f_p1_3 : Value} {w_p1 : Bool} {w_p2 : Bool} {w_p3 : Bool} {ad_p3 : String} {F : List Ent} (mp1 : (p1, w_p1, oJdqlLexer_Token f_p1_0 (vr p2) f_p1_2 f_p1_3) ∈ F) (mp2 : (p2, w_p2, oString (vr p3) (vi 1)) ∈ F) (mp3 : (p3, w_p3, ar ad_p3 .byte [(vi x2.toInt8.toInt32), (vi (x2 >>> ((8 : Int32) &&& 31)).toInt8.toInt32), (vi x3.toInt8.toInt32), (vi (x3 >>> ((8 : Int32) &&& 31)).toInt8.toInt32), (vi x4.toInt8.toInt32), (vi (x4 >>> ((8 : Int32) &&& 31)).toInt8.toInt32)]) ∈ F) : Con Z EL y33 y33b 6 y33r (rmm 8 6 26 115) [(vr p1)] (F) (fun v D' => (∃ a11 a12 : Addr, v = some (vr a11) ∧ (a12, true, ar "[B" .byte [(vi (lc x2).toInt8.toInt32), (vi ((lc x2) >>> ((8 : Int32) &&& 31)).toInt8.toInt32), (vi (lc x3).toInt8.toInt32), (vi ((lc x3) >>> ((8 : Int32) &&& 31)).toInt8.toInt32), (vi (lc x4).toInt8.toInt32), (vi ((lc x4) >>> ((8 : Int32) &&& 31)).toInt8.toInt32)]) :: (a11, true, oString (vr a12) (vi 1)) :: F = D')) := by
  refine Con.of (ls := #[rv p1, uu, uu, uu, uu, uu]) (by decide +kernel) rfl ?_
  refine W.new d6_0 (wq hw 50 rfl) (wq hw 51 rfl) (wq hw 52 rfl) (laStringBuilder hw) (by decide) (by decide) (fun a1 => ?_)
  show W _ _ _ _ _ _ _ _ _ _ _ _ 3 _ [(vr a1)]
  refine W.dup d6_3 rfl ?_
  refine W.aloadN d6_4 rfl rfl ?_
  refine W.getf d6_5 (wq hw 39 rfl) Via.refl (mS mp1) m1 ?_
  refine W.callV (as := []) 2 [(vr a1), (vr a1)] d6_8 (wq hw 53 rfl) (wq hw 54 rfl) (wq hw 56 rfl) (wq hw 56 rfl) (wq hw 55 rfl) (wq hw 3 rfl) (wq hw 57 rfl) (Hp.exa (mS mp2)) (c55_length hw hs (hvs_p2 := rfl) (mp1 := (mS mp2)) (mp2 := (mS mp3))) (by decide) pd__I rfl rfl rfl rfl (by decide) (fun v D' h => ?_)
  obtain ⟨rfl, rfl⟩ := h
  show W _ _ _ _ _ _ _ _ _ _ _ _ 11 _ [(vi 3), (vr a1), (vr a1)]
  refine W.callI (as := [(vi 3)]) 1 [(vr a1)] d6_11 rfl (wq hw 64 rfl) (wq hw 65 rfl) (wq hw 52 rfl) (wq hw 66 rfl) (c21_init hw hs) (by decide) pd_I_V rfl rfl rfl rfl (by decide) (fun v D' h => ?_)
  obtain ⟨a2, rfl, rfl⟩ := h
  show W _ _ _ _ _ _ _ _ _ _ _ _ 14 _ [(vr a1)]
  refine W.astoreN (ls' := #[rv p1, rv a1, uu, uu, uu, uu]) d6_14 rfl rfl ?_
  refine W.aloadN d6_15 rfl rfl ?_
  refine W.getf d6_16 (wq hw 39 rfl) Via.refl (mS (mS mp1)) m1 ?_
  refine W.callV (as := []) 0 [] d6_19 (wq hw 79 rfl) (wq hw 80 rfl) (wq hw 82 rfl) (wq hw 82 rfl) (wq hw 81 rfl) (wq hw 3 rfl) (wq hw 83 rfl) (Hp.exa (mS (mS mp2))) (c57_toCharArray hw hs (hx1 := (by omega)) (hx2 := (by omega)) (hx3 := (by omega)) (mp1 := (mS (mS mp2))) (mp2 := (mS (mS mp3)))) (by decide) pd___C rfl rfl rfl rfl (by decide) (fun v D' h => ?_)
  obtain ⟨a3, rfl, rfl⟩ := h
  show W _ _ _ _ _ _ _ _ _ _ _ _ 22 _ [(vr a3)]
  refine W.astoreN (ls' := #[rv p1, rv a1, rv a3, uu, uu, uu]) d6_22 rfl rfl ?_
  refine W.aloadN d6_23 rfl rfl ?_
  refine W.alen (3) d6_24 m0 rfl ?_
  refine W.istoreN (ls' := #[rv p1, rv a1, rv a3, iv 3, uu, uu]) d6_25 rfl ?_
  refine W.iconst (0) d6_26 (by decide) ?_
  refine W.istore (ls' := #[rv p1, rv a1, rv a3, iv 3, iv 0, uu]) d6_27 rfl ?_
  refine W.iload d6_29 rfl ?_
  refine W.iloadN d6_31 rfl ?_
  refine W.icmpN d6_32 (n_ge (by decide)) ?_
  refine W.aloadN d6_35 rfl rfl ?_
  refine W.iload d6_36 rfl ?_
  refine W.caload 0 d6_38 m0 ix0 rfl ?_
  refine W.istore (ls' := #[rv p1, rv a1, rv a3, iv 3, iv 0, iv x2]) d6_39 rfl ?_
  refine W.aloadN d6_41 rfl rfl ?_
  have K5 : W Z EL (rmm 8 6 26 115) "com/example/rochester/rochester/JdqlLexer$Token" "lowerCase" prog_12_method_5_code 6 (Option.some (Jvm.ClassFile.FieldType.object "java/lang/String")) (fun v D' => (∃ a11 a12 : Addr, v = some (vr a11) ∧ (a12, true, ar "[B" .byte [(vi (lc x2).toInt8.toInt32), (vi ((lc x2) >>> ((8 : Int32) &&& 31)).toInt8.toInt32), (vi (lc x3).toInt8.toInt32), (vi ((lc x3) >>> ((8 : Int32) &&& 31)).toInt8.toInt32), (vi (lc x4).toInt8.toInt32), (vi ((lc x4) >>> ((8 : Int32) &&& 31)).toInt8.toInt32)]) :: (a11, true, oString (vr a12) (vi 1)) :: F = D')) ((a3, true, ar "[C" .char [(vi x2), (vi x3), (vi x4)]) :: (a2, true, ar "[B" .byte [(vi 0), (vi 0), (vi 0)]) :: (a1, true, oStringBuilder (vr a2) (vi 0) (vi 0) (vi 0)) :: F) 3 10 70 #[rv p1, rv a1, rv a3, iv 3, iv 0, iv x2] [(vi (lc x2)), (vr a1)] := by
   refine W.front 1 (D' := (a2, true, ar "[B" .byte [(vi 0), (vi 0), (vi 0)]) :: (a3, true, ar "[C" .char [(vi x2), (vi x3), (vi x4)]) :: (a1, true, oStringBuilder (vr a2) (vi 0) (vi 0) (vi 0)) :: F) rfl rfl ?_
   refine W.front 2 (D' := (a1, true, oStringBuilder (vr a2) (vi 0) (vi 0) (vi 0)) :: (a2, true, ar "[B" .byte [(vi 0), (vi 0), (vi 0)]) :: (a3, true, ar "[C" .char [(vi x2), (vi x3), (vi x4)]) :: F) rfl rfl ?_
   refine W.callV (as := [(vi (lc x2))]) 0 [] d6_70 (wq hw 153 rfl) (wq hw 154 rfl) (wq hw 156 rfl) (wq hw 156 rfl) (wq hw 155 rfl) (wq hw 52 rfl) (wq hw 157 rfl) (Hp.exa m0) (c27_append hw hs (hx1 := (by have := a_lc x2; omega))) (by decide) pd_C_Ljava_lang_StringBuilder_ rfl rfl rfl rfl (by decide) (fun v D' h => ?_)
   obtain ⟨rfl, rfl⟩ := h
   show W _ _ _ _ _ _ _ _ _ _ _ _ 73 _ [(vr a1)]
   refine W.popv d6_73 rfl ?_
   refine W.iincK (ls' := #[rv p1, rv a1, rv a3, iv 3, iv 1, iv x2]) (1) (1 : Int32) d6_74 (by decide) rfl (by decide) rfl ?_
   refine W.goto 29 d6_77 (by decide) ?_
   refine W.iload d6_29 rfl ?_
   refine W.iloadN d6_31 rfl ?_
   refine W.icmpN d6_32 (n_ge (by decide)) ?_
   refine W.aloadN d6_35 rfl rfl ?_
   refine W.iload d6_36 rfl ?_
   refine W.caload 1 d6_38 m2 ix1 rfl ?_
   refine W.istore (ls' := #[rv p1, rv a1, rv a3, iv 3, iv 1, iv x3]) d6_39 rfl ?_
   refine W.aloadN d6_41 rfl rfl ?_
   have K7 : W Z EL (rmm 8 6 26 115) "com/example/rochester/rochester/JdqlLexer$Token" "lowerCase" prog_12_method_5_code 6 (Option.some (Jvm.ClassFile.FieldType.object "java/lang/String")) (fun v D' => (∃ a11 a12 : Addr, v = some (vr a11) ∧ (a12, true, ar "[B" .byte [(vi (lc x2).toInt8.toInt32), (vi ((lc x2) >>> ((8 : Int32) &&& 31)).toInt8.toInt32), (vi (lc x3).toInt8.toInt32), (vi ((lc x3) >>> ((8 : Int32) &&& 31)).toInt8.toInt32), (vi (lc x4).toInt8.toInt32), (vi ((lc x4) >>> ((8 : Int32) &&& 31)).toInt8.toInt32)]) :: (a11, true, oString (vr a12) (vi 1)) :: F = D')) ((a1, true, oStringBuilder (vr a2) (vi 0) (vi 1) (vi 0)) :: (a2, true, ar "[B" .byte [(vi (lc x2).toInt8.toInt32), (vi 0), (vi 0)]) :: (a3, true, ar "[C" .char [(vi x2), (vi x3), (vi x4)]) :: F) 3 10 70 #[rv p1, rv a1, rv a3, iv 3, iv 1, iv x3] [(vi (lc x3)), (vr a1)] := by
    refine W.callV (as := [(vi (lc x3))]) 0 [] d6_70 (wq hw 153 rfl) (wq hw 154 rfl) (wq hw 156 rfl) (wq hw 156 rfl) (wq hw 155 rfl) (wq hw 52 rfl) (wq hw 157 rfl) (Hp.exa m0) (c32_append hw hs (hx1 := (by have := a_lc x3; omega))) (by decide) pd_C_Ljava_lang_StringBuilder_ rfl rfl rfl rfl (by decide) (fun v D' h => ?_)
    obtain ⟨rfl, rfl⟩ := h
    show W _ _ _ _ _ _ _ _ _ _ _ _ 73 _ [(vr a1)]
    refine W.popv d6_73 rfl ?_
    refine W.iincK (ls' := #[rv p1, rv a1, rv a3, iv 3, iv 2, iv x3]) (1) (2 : Int32) d6_74 (by decide) rfl (by decide) rfl ?_
    refine W.goto 29 d6_77 (by decide) ?_
    refine W.iload d6_29 rfl ?_
    refine W.iloadN d6_31 rfl ?_
    refine W.icmpN d6_32 (n_ge (by decide)) ?_
    refine W.aloadN d6_35 rfl rfl ?_
    refine W.iload d6_36 rfl ?_
    refine W.caload 2 d6_38 m2 ix2 rfl ?_
    refine W.istore (ls' := #[rv p1, rv a1, rv a3, iv 3, iv 2, iv x4]) d6_39 rfl ?_
    refine W.aloadN d6_41 rfl rfl ?_
    have K9 : W Z EL (rmm 8 6 26 115) "com/example/rochester/rochester/JdqlLexer$Token" "lowerCase" prog_12_method_5_code 6 (Option.some (Jvm.ClassFile.FieldType.object "java/lang/String")) (fun v D' => (∃ a11 a12 : Addr, v = some (vr a11) ∧ (a12, true, ar "[B" .byte [(vi (lc x2).toInt8.toInt32), (vi ((lc x2) >>> ((8 : Int32) &&& 31)).toInt8.toInt32), (vi (lc x3).toInt8.toInt32), (vi ((lc x3) >>> ((8 : Int32) &&& 31)).toInt8.toInt32), (vi (lc x4).toInt8.toInt32), (vi ((lc x4) >>> ((8 : Int32) &&& 31)).toInt8.toInt32)]) :: (a11, true, oString (vr a12) (vi 1)) :: F = D')) ((a1, true, oStringBuilder (vr a2) (vi 0) (vi 2) (vi 0)) :: (a2, true, ar "[B" .byte [(vi (lc x2).toInt8.toInt32), (vi (lc x3).toInt8.toInt32), (vi 0)]) :: (a3, true, ar "[C" .char [(vi x2), (vi x3), (vi x4)]) :: F) 3 10 70 #[rv p1, rv a1, rv a3, iv 3, iv 2, iv x4] [(vi (lc x4)), (vr a1)] := by
     refine W.callV (as := [(vi (lc x4))]) 0 [] d6_70 (wq hw 153 rfl) (wq hw 154 rfl) (wq hw 156 rfl) (wq hw 156 rfl) (wq hw 155 rfl) (wq hw 52 rfl) (wq hw 157 rfl) (Hp.exa m0) (c65_append hw hs (hx1 := (by have := a_lc x4; omega)) (hx2 := (by have := a_lc x2; omega)) (hx3 := (by have := a_lc x3; omega)) (mp2 := m0)) (by decide) pd_C_Ljava_lang_StringBuilder_ rfl rfl rfl rfl (by decide) (fun v D' h => ?_)
     obtain ⟨a10, rfl, rfl⟩ := h
     show W _ _ _ _ _ _ _ _ _ _ _ _ 73 _ [(vr a1)]
     refine W.popv d6_73 rfl ?_
     refine W.iincK (ls' := #[rv p1, rv a1, rv a3, iv 3, iv 3, iv x4]) (1) (3 : Int32) d6_74 (by decide) rfl (by decide) rfl ?_
     refine W.goto 29 d6_77 (by decide) ?_
     refine W.iload d6_29 rfl ?_
     refine W.iloadN d6_31 rfl ?_
     refine W.icmpY 80 d6_32 (y_ge (by decide)) (by decide) ?_
     refine W.aloadN d6_80 rfl rfl ?_
     refine W.callV (as := []) 0 [] d6_81 (wq hw 96 rfl) (wq hw 97 rfl) (wq hw 99 rfl) (wq hw 99 rfl) (wq hw 98 rfl) (wq hw 52 rfl) (wq hw 100 rfl) (Hp.exa m1) (c76_toString hw hs (hx1 := (by have := a_lc x2; omega)) (hx2 := (by have := a_lc x3; omega)) (hx3 := (by have := a_lc x4; omega)) (mp1 := m1) (mp2 := m0)) (by decide) pd__Ljava_lang_String_ rfl rfl rfl rfl (by decide) (fun v D' h => ?_)
     obtain ⟨a11, a12, rfl, rfl⟩ := h
     show W _ _ _ _ _ _ _ _ _ _ _ _ 84 _ [(vr a11)]
     refine W.dropAt 2 (D' := (a12, true, ar "[B" .byte [(vi (lc x2).toInt8.toInt32), (vi ((lc x2) >>> ((8 : Int32) &&& 31)).toInt8.toInt32), (vi (lc x3).toInt8.toInt32), (vi ((lc x3) >>> ((8 : Int32) &&& 31)).toInt8.toInt32), (vi (lc x4).toInt8.toInt32), (vi ((lc x4) >>> ((8 : Int32) &&& 31)).toInt8.toInt32)]) :: (a11, true, oString (vr a12) (vi 1)) :: (a1, true, oStringBuilder (vr a10) (vi 1) (vi 3) (vi 0)) :: (a2, true, ar "[B" .byte [(vi (lc x2).toInt8.toInt32), (vi (lc x3).toInt8.toInt32), (vi 0)]) :: (a3, true, ar "[C" .char [(vi x2), (vi x3), (vi x4)]) :: F) rfl ?_
     refine W.dropAt 2 (D' := (a12, true, ar "[B" .byte [(vi (lc x2).toInt8.toInt32), (vi ((lc x2) >>> ((8 : Int32) &&& 31)).toInt8.toInt32), (vi (lc x3).toInt8.toInt32), (vi ((lc x3) >>> ((8 : Int32) &&& 31)).toInt8.toInt32), (vi (lc x4).toInt8.toInt32), (vi ((lc x4) >>> ((8 : Int32) &&& 31)).toInt8.toInt32)]) :: (a11, true, oString (vr a12) (vi 1)) :: (a2, true, ar "[B" .byte [(vi (lc x2).toInt8.toInt32), (vi (lc x3).toInt8.toInt32), (vi 0)]) :: (a3, true, ar "[C" .char [(vi x2), (vi x3), (vi x4)]) :: F) rfl ?_
     refine W.dropAt 2 (D' := (a12, true, ar "[B" .byte [(vi (lc x2).toInt8.toInt32), (vi ((lc x2) >>> ((8 : Int32) &&& 31)).toInt8.toInt32), (vi (lc x3).toInt8.toInt32), (vi ((lc x3) >>> ((8 : Int32) &&& 31)).toInt8.toInt32), (vi (lc x4).toInt8.toInt32), (vi ((lc x4) >>> ((8 : Int32) &&& 31)).toInt8.toInt32)]) :: (a11, true, oString (vr a12) (vi 1)) :: (a3, true, ar "[C" .char [(vi x2), (vi x3), (vi x4)]) :: F) rfl ?_
     refine W.dropAt 2 (D' := (a12, true, ar "[B" .byte [(vi (lc x2).toInt8.toInt32), (vi ((lc x2) >>> ((8 : Int32) &&& 31)).toInt8.toInt32), (vi (lc x3).toInt8.toInt32), (vi ((lc x3) >>> ((8 : Int32) &&& 31)).toInt8.toInt32), (vi (lc x4).toInt8.toInt32), (vi ((lc x4) >>> ((8 : Int32) &&& 31)).toInt8.toInt32)]) :: (a11, true, oString (vr a12) (vi 1)) :: F) rfl ?_
     exact W.areturn d6_84 rfl rfl rfl (by decide) ⟨a11, a12, rfl, rfl⟩
    refine W.iload d6_42 rfl ?_
    refine W.bipush (65) d6_44 (by decide) ?_
    refine W.icmpN d6_46 (n_lt (by have := q65; omega)) ?_
    refine W.iload d6_49 rfl ?_
    refine W.bipush (90) d6_51 (by decide) ?_
    refine W.icmpY 68 d6_53 (y_gt (by have := q90; omega)) (by decide) ?_
    refine W.iload d6_68 rfl ?_
    refine W.top (y := (lc x4)) (lc_of (by omega)) ?_
    exact W.mono (by decide) (by decide) (K9  )
   refine W.iload d6_42 rfl ?_
   refine W.bipush (65) d6_44 (by decide) ?_
   refine W.icmp 68 d6_46 (by decide) (fun h1 => ?_) (fun h1 => ?_)
   ·
    have ih1 := t_lt h1
    refine W.iload d6_68 rfl ?_
    refine W.top (y := (lc x3)) (lc_of (by have := q65; omega)) ?_
    exact W.mono (by decide) (by decide) (K7  )
   ·
    have ih1 := f_lt h1
    refine W.iload d6_49 rfl ?_
    refine W.bipush (90) d6_51 (by decide) ?_
    refine W.icmp 68 d6_53 (by decide) (fun h2 => ?_) (fun h2 => ?_)
    ·
     have ih2 := t_gt h2
     refine W.iload d6_68 rfl ?_
     refine W.top (y := (lc x3)) (lc_of (by have := q65; have := q90; omega)) ?_
     exact W.mono (by decide) (by decide) (K7  )
    ·
     have ih2 := f_gt h2
     refine W.iload d6_56 rfl ?_
     refine W.bipush (65) d6_58 (by decide) ?_
     refine W.isub d6_60 ?_
     refine W.bipush (97) d6_61 (by decide) ?_
     refine W.iadd d6_63 ?_
     refine W.i2cK ((x3 - (65 : Int32)) + (97 : Int32)) d6_64 (z_i2c (by have := q65; have := a_sub x3 (65 : Int32); have := q97; have := a_add (x3 - (65 : Int32)) (97 : Int32); have := q90; omega)) ?_
     refine W.goto 70 d6_65 (by decide) ?_
     refine W.top (y := (lc x3)) (lc_of (by have := q65; have := a_sub x3 (65 : Int32); have := q97; have := a_add (x3 - (65 : Int32)) (97 : Int32); have := q90; omega)) ?_
     exact W.mono (by decide) (by decide) (K7  )
  refine W.iload d6_42 rfl ?_
  refine W.bipush (65) d6_44 (by decide) ?_
  refine W.icmp 68 d6_46 (by decide) (fun h3 => ?_) (fun h3 => ?_)
  ·
   have ih3 := t_lt h3
   refine W.iload d6_68 rfl ?_
   refine W.top (y := (lc x2)) (lc_of (by have := q65; omega)) ?_
   exact W.mono (by decide) (by decide) (K5  )
  ·
   have ih3 := f_lt h3
   refine W.iload d6_49 rfl ?_
   refine W.bipush (90) d6_51 (by decide) ?_
   refine W.icmp 68 d6_53 (by decide) (fun h4 => ?_) (fun h4 => ?_)
   ·
    have ih4 := t_gt h4
    refine W.iload d6_68 rfl ?_
    refine W.top (y := (lc x2)) (lc_of (by have := q65; have := q90; omega)) ?_
    exact W.mono (by decide) (by decide) (K5  )
   ·
    have ih4 := f_gt h4
    refine W.iload d6_56 rfl ?_
    refine W.bipush (65) d6_58 (by decide) ?_
    refine W.isub d6_60 ?_
    refine W.bipush (97) d6_61 (by decide) ?_
    refine W.iadd d6_63 ?_
    refine W.i2cK ((x2 - (65 : Int32)) + (97 : Int32)) d6_64 (z_i2c (by have := q65; have := a_sub x2 (65 : Int32); have := q97; have := a_add (x2 - (65 : Int32)) (97 : Int32); have := q90; omega)) ?_
    refine W.goto 70 d6_65 (by decide) ?_
    refine W.top (y := (lc x2)) (lc_of (by have := q65; have := a_sub x2 (65 : Int32); have := q97; have := a_add (x2 - (65 : Int32)) (97 : Int32); have := q90; omega)) ?_
    exact W.mono (by decide) (by decide) (K5  )
theorem d30_16 : decode jdk_42_method_56_code 16 = .ok (.aload_n 0, 1) := by decide +kernel
theorem d30_17 : decode jdk_42_method_56_code 17 = .ok (.getfield 9, 3) := by decide +kernel
theorem d30_20 : decode jdk_42_method_56_code 20 = .ok (.iload_n 1, 1) := by decide +kernel
theorem d30_21 : decode jdk_42_method_56_code 21 = .ok (.invokestatic 498, 3) := by decide +kernel
theorem d51_0 : decode jdk_52_method_83_code 0 = .ok (.iload_n 1, 1) := by decide +kernel
theorem d51_1 : decode jdk_52_method_83_code 1 = .ok (.aload_n 0, 1) := by decide +kernel
theorem d51_2 : decode jdk_52_method_83_code 2 = .ok (.invokestatic 67, 3) := by decide +kernel
theorem c83_checkIndex {Z a0} (hw : HW a0 Z) (hs : SF Z) {p1 : Addr} {vs_p1 : List Value} (hvs_p1 : vs_p1.length = 6) {w_p1 : Bool} {ad_p1 : String} {F : List Ent} (mp1 : (p1, w_p1, ar ad_p1 .byte vs_p1) ∈ F) : Con Z EL y48 y48b 2 y48r (rmm 2 0 0 27) [(vi 0), (vr p1)] (F) (fun v D' => (v = none ∧ F = D')) := by
  refine Con.of (ls := #[iv 0, rv p1]) (by decide +kernel) rfl ?_
  refine W.iloadN d50_0 rfl ?_
  refine W.aloadN d50_1 rfl rfl ?_
  refine W.callS (as := [(vr p1)]) 1 [(vi 0)] d50_2 (wq hw 219 rfl) (wq hw 220 rfl) (wq hw 145 rfl) (wq hw 221 rfl) (c62_length hw hs (hvs_p1 := hvs_p1) (mp1 := mp1)) (by decide) pd__B_I rfl rfl rfl rfl (by decide) (fun v D' h => ?_)
  obtain ⟨rfl, rfl⟩ := h
  show W _ _ _ _ _ _ _ _ _ _ _ _ 5 _ [(vi 3), (vi 0)]
  refine W.callS (as := [(vi 0), (vi 3)]) 0 [] d50_5 (wq hw 246 rfl) (wq hw 180 rfl) (wq hw 3 rfl) (wq hw 181 rfl) (c47_checkIndex hw hs (hr0 := by have := q0; omega) (hr1 := by have := q0; have := q3; omega)) (by decide) pd_II_V rfl rfl rfl rfl (by decide) (fun v D' h => ?_)
  obtain ⟨rfl, rfl⟩ := h
  show W _ _ _ _ _ _ _ _ _ _ _ _ 8 _ []
  exact W.return_ d50_8 rfl (by decide) ⟨rfl, rfl⟩
theorem d51_5 : decode jdk_52_method_83_code 5 = .ok (.aload_n 0, 1) := by decide +kernel
theorem d51_6 : decode jdk_52_method_83_code 6 = .ok (.iload_n 1, 1) := by decide +kernel
theorem d51_7 : decode jdk_52_method_83_code 7 = .ok (.invokestatic 71, 3) := by decide +kernel
theorem d51_10 : decode jdk_52_method_83_code 10 = .ok (.ireturn, 1) := by decide +kernel
abbrev y50 : MethodName := ⟨"java/lang/StringUTF16", "charAt", "([BI)C"⟩
abbrev y50b : ByteArray := jdk_52_method_83_code
abbrev y50r : Option Jvm.ClassFile.FieldType := (Option.some Jvm.ClassFile.FieldType.char)
theorem c82_charAt {Z a0} (hw : HW a0 Z) (hs : SF Z) {p1 : Addr} {x1 : Int32} (hx1 : 0 ≤ x1.toInt ∧ x1.toInt ≤ 65535) {e_p1_2 e_p1_3 e_p1_4 e_p1_5 : Value} {w_p1 : Bool} {ad_p1 : String} {F : List Ent} (mp1 : (p1, w_p1, ar ad_p1 .byte [(vi x1.toInt8.toInt32), (vi (x1 >>> ((8 : Int32) &&& 31)).toInt8.toInt32), e_p1_2, e_p1_3, e_p1_4, e_p1_5]) ∈ F) : Con Z EL y50 y50b 2 y50r (rmm 3 0 0 40) [(vr p1), (vi 0)] (F) (fun v D' => (v = some (vi x1) ∧ F = D')) := by
  refine Con.of (ls := #[rv p1, iv 0]) (by decide +kernel) rfl ?_
  refine W.iloadN d51_0 rfl ?_
  refine W.aloadN d51_1 rfl rfl ?_
  refine W.callS (as := [(vi 0), (vr p1)]) 0 [] d51_2 (wq hw 243 rfl) (wq hw 244 rfl) (wq hw 145 rfl) (wq hw 245 rfl) (c83_checkIndex hw hs (hvs_p1 := rfl) (mp1 := mp1)) (by decide) pd_I_B_V rfl rfl rfl rfl (by decide) (fun v D' h => ?_)
  obtain ⟨rfl, rfl⟩ := h
  show W _ _ _ _ _ _ _ _ _ _ _ _ 5 _ []
  refine W.aloadN d51_5 rfl rfl ?_
  refine W.iloadN d51_6 rfl ?_
  refine W.callS (as := [(vr p1), (vi 0)]) 0 [] d51_7 (wq hw 207 rfl) (wq hw 208 rfl) (wq hw 145 rfl) (wq hw 209 rfl) (c13_getChar hw hs (hx1 := hx1) (mp1 := mp1)) (by decide) pd__BI_C rfl rfl rfl rfl (by decide) (fun v D' h => ?_)
  obtain ⟨rfl, rfl⟩ := h
  show W _ _ _ _ _ _ _ _ _ _ _ _ 10 _ [(vi x1)]
  exact W.ireturn d51_10 rfl (Or.inr (Or.inr (Or.inr (Or.inl rfl)))) (nw_char hx1) (by decide) ⟨rfl, rfl⟩
theorem d30_24 : decode jdk_42_method_56_code 24 = .ok (.ireturn, 1) := by decide +kernel
theorem c81_charAt {Z a0} (hw : HW a0 Z) (hs : SF Z) {p1 p2 : Addr} {x1 : Int32} (hx1 : 0 ≤ x1.toInt ∧ x1.toInt ≤ 65535) {e_p2_2 e_p2_3 e_p2_4 e_p2_5 : Value} {w_p1 : Bool} {w_p2 : Bool} {ad_p2 : String} {F : List Ent} (mp1 : (p1, w_p1, oString (vr p2) (vi 1)) ∈ F) (mp2 : (p2, w_p2, ar ad_p2 .byte [(vi x1.toInt8.toInt32), (vi (x1 >>> ((8 : Int32) &&& 31)).toInt8.toInt32), e_p2_2, e_p2_3, e_p2_4, e_p2_5]) ∈ F) : Con Z EL y37 y37b 2 y37r (rmm 4 0 0 53) [(vr p1), (vi 0)] (F) (fun v D' => (v = some (vi x1) ∧ F = D')) := by
  refine Con.of (ls := #[rv p1, iv 0]) (by decide +kernel) rfl ?_
  refine W.aloadN d30_0 rfl rfl ?_
  refine W.callV (as := []) 0 [] d30_1 (wq hw 84 rfl) (wq hw 85 rfl) (wq hw 87 rfl) (wq hw 87 rfl) (wq hw 86 rfl) (wq hw 3 rfl) (wq hw 88 rfl) (Hp.exa mp1) (c58_isLatin1 hw hs (mp1 := mp1)) (by decide) pd__Z rfl rfl rfl rfl (by decide) (fun v D' h => ?_)
  obtain ⟨rfl, rfl⟩ := h
  show W _ _ _ _ _ _ _ _ _ _ _ _ 4 _ [(vi 0)]
  refine W.ifY 16 d30_4 (y_eq (by decide)) (by decide) ?_
  refine W.aloadN d30_16 rfl rfl ?_
  refine W.getf d30_17 (wq hw 20 rfl) Via.refl mp1 m0 ?_
  refine W.iloadN d30_20 rfl ?_
  refine W.callS (as := [(vr p2), (vi 0)]) 0 [] d30_21 (wq hw 249 rfl) (wq hw 250 rfl) (wq hw 145 rfl) (wq hw 251 rfl) (c82_charAt hw hs (hx1 := hx1) (mp1 := mp2)) (by decide) pd__BI_C rfl rfl rfl rfl (by decide) (fun v D' h => ?_)
  obtain ⟨rfl, rfl⟩ := h
  show W _ _ _ _ _ _ _ _ _ _ _ _ 24 _ [(vi x1)]
  exact W.ireturn d30_24 rfl (Or.inr (Or.inr (Or.inr (Or.inl rfl)))) (nw_char hx1) (by decide) ⟨rfl, rfl⟩
theorem c86_checkIndex {Z a0} (hw : HW a0 Z) (hs : SF Z) {p1 : Addr} {vs_p1 : List Value} (hvs_p1 : vs_p1.length = 6) {w_p1 : Bool} {ad_p1 : String} {F : List Ent} (mp1 : (p1, w_p1, ar ad_p1 .byte vs_p1) ∈ F) : Con Z EL y48 y48b 2 y48r (rmm 2 0 0 27) [(vi 1), (vr p1)] (F) (fun v D' => (v = none ∧ F = D')) := by
  refine Con.of (ls := #[iv 1, rv p1]) (by decide +kernel) rfl ?_
  refine W.iloadN d50_0 rfl ?_
  refine W.aloadN d50_1 rfl rfl ?_
  refine W.callS (as := [(vr p1)]) 1 [(vi 1)] d50_2 (wq hw 219 rfl) (wq hw 220 rfl) (wq hw 145 rfl) (wq hw 221 rfl) (c62_length hw hs (hvs_p1 := hvs_p1) (mp1 := mp1)) (by decide) pd__B_I rfl rfl rfl rfl (by decide) (fun v D' h => ?_)
  obtain ⟨rfl, rfl⟩ := h
  show W _ _ _ _ _ _ _ _ _ _ _ _ 5 _ [(vi 3), (vi 1)]
  refine W.callS (as := [(vi 1), (vi 3)]) 0 [] d50_5 (wq hw 246 rfl) (wq hw 180 rfl) (wq hw 3 rfl) (wq hw 181 rfl) (c47_checkIndex hw hs (hr0 := by have := q0; have := q1; omega) (hr1 := by have := q1; have := q3; omega)) (by decide) pd_II_V rfl rfl rfl rfl (by decide) (fun v D' h => ?_)
  obtain ⟨rfl, rfl⟩ := h
  show W _ _ _ _ _ _ _ _ _ _ _ _ 8 _ []
  exact W.return_ d50_8 rfl (by decide) ⟨rfl, rfl⟩
theorem c85_charAt {Z a0} (hw : HW a0 Z) (hs : SF Z) {p1 : Addr} {x2 : Int32} (hx2 : 0 ≤ x2.toInt ∧ x2.toInt ≤ 65535) {e_p1_0 e_p1_1 e_p1_4 e_p1_5 : Value} {w_p1 : Bool} {ad_p1 : String} {F : List Ent} (mp1 : (p1, w_p1, ar ad_p1 .byte [e_p1_0, e_p1_1, (vi x2.toInt8.toInt32), (vi (x2 >>> ((8 : Int32) &&& 31)).toInt8.toInt32), e_p1_4, e_p1_5]) ∈ F) : Con Z EL y50 y50b 2 y50r (rmm 3 0 0 40) [(vr p1), (vi 1)] (F) (fun v D' => (v = some (vi x2) ∧ F = D')) := by
  refine Con.of (ls := #[rv p1, iv 1]) (by decide +kernel) rfl ?_
  refine W.iloadN d51_0 rfl ?_
  refine W.aloadN d51_1 rfl rfl ?_
  refine W.callS (as := [(vi 1), (vr p1)]) 0 [] d51_2 (wq hw 243 rfl) (wq hw 244 rfl) (wq hw 145 rfl) (wq hw 245 rfl) (c86_checkIndex hw hs (hvs_p1 := rfl) (mp1 := mp1)) (by decide) pd_I_B_V rfl rfl rfl rfl (by decide) (fun v D' h => ?_)
  obtain ⟨rfl, rfl⟩ := h
  show W _ _ _ _ _ _ _ _ _ _ _ _ 5 _ []
  refine W.aloadN d51_5 rfl rfl ?_
  refine W.iloadN d51_6 rfl ?_
  refine W.callS (as := [(vr p1), (vi 1)]) 0 [] d51_7 (wq hw 207 rfl) (wq hw 208 rfl) (wq hw 145 rfl) (wq hw 209 rfl) (c12_getChar hw hs (hx2 := hx2) (mp1 := mp1)) (by decide) pd__BI_C rfl rfl rfl rfl (by decide) (fun v D' h => ?_)
  obtain ⟨rfl, rfl⟩ := h
  show W _ _ _ _ _ _ _ _ _ _ _ _ 10 _ [(vi x2)]
  exact W.ireturn d51_10 rfl (Or.inr (Or.inr (Or.inr (Or.inl rfl)))) (nw_char hx2) (by decide) ⟨rfl, rfl⟩
theorem c84_charAt {Z a0} (hw : HW a0 Z) (hs : SF Z) {p1 p2 : Addr} {x2 : Int32} (hx2 : 0 ≤ x2.toInt ∧ x2.toInt ≤ 65535) {e_p2_0 e_p2_1 e_p2_4 e_p2_5 : Value} {w_p1 : Bool} {w_p2 : Bool} {ad_p2 : String} {F : List Ent} (mp1 : (p1, w_p1, oString (vr p2) (vi 1)) ∈ F) (mp2 : (p2, w_p2, ar ad_p2 .byte [e_p2_0, e_p2_1, (vi x2.toInt8.toInt32), (vi (x2 >>> ((8 : Int32) &&& 31)).toInt8.toInt32), e_p2_4, e_p2_5]) ∈ F) : Con Z EL y37 y37b 2 y37r (rmm 4 0 0 53) [(vr p1), (vi 1)] (F) (fun v D' => (v = some (vi x2) ∧ F = D')) := by
  refine Con.of (ls := #[rv p1, iv 1]) (by decide +kernel) rfl ?_
  refine W.aloadN d30_0 rfl rfl ?_
  refine W.callV (as := []) 0 [] d30_1 (wq hw 84 rfl) (wq hw 85 rfl) (wq hw 87 rfl) (wq hw 87 rfl) (wq hw 86 rfl) (wq hw 3 rfl) (wq hw 88 rfl) (Hp.exa mp1) (c58_isLatin1 hw hs (mp1 := mp1)) (by decide) pd__Z rfl rfl rfl rfl (by decide) (fun v D' h => ?_)
  obtain ⟨rfl, rfl⟩ := h
  show W _ _ _ _ _ _ _ _ _ _ _ _ 4 _ [(vi 0)]
  refine W.ifY 16 d30_4 (y_eq (by decide)) (by decide) ?_
  refine W.aloadN d30_16 rfl rfl ?_
  refine W.getf d30_17 (wq hw 20 rfl) Via.refl mp1 m0 ?_
  refine W.iloadN d30_20 rfl ?_
  refine W.callS (as := [(vr p2), (vi 1)]) 0 [] d30_21 (wq hw 249 rfl) (wq hw 250 rfl) (wq hw 145 rfl) (wq hw 251 rfl) (c85_charAt hw hs (hx2 := hx2) (mp1 := mp2)) (by decide) pd__BI_C rfl rfl rfl rfl (by decide) (fun v D' h => ?_)
  obtain ⟨rfl, rfl⟩ := h
  show W _ _ _ _ _ _ _ _ _ _ _ _ 24 _ [(vi x2)]
  exact W.ireturn d30_24 rfl (Or.inr (Or.inr (Or.inr (Or.inl rfl)))) (nw_char hx2) (by decide) ⟨rfl, rfl⟩
theorem c88_charAt {Z a0} (hw : HW a0 Z) (hs : SF Z) {p1 : Addr} {x3 : Int32} (hx3 : 0 ≤ x3.toInt ∧ x3.toInt ≤ 65535) {e_p1_0 e_p1_1 e_p1_2 e_p1_3 : Value} {w_p1 : Bool} {ad_p1 : String} {F : List Ent} (mp1 : (p1, w_p1, ar ad_p1 .byte [e_p1_0, e_p1_1, e_p1_2, e_p1_3, (vi x3.toInt8.toInt32), (vi (x3 >>> ((8 : Int32) &&& 31)).toInt8.toInt32)]) ∈ F) : Con Z EL y50 y50b 2 y50r (rmm 3 0 0 40) [(vr p1), (vi 2)] (F) (fun v D' => (v = some (vi x3) ∧ F = D')) := by
  refine Con.of (ls := #[rv p1, iv 2]) (by decide +kernel) rfl ?_
  refine W.iloadN d51_0 rfl ?_
  refine W.aloadN d51_1 rfl rfl ?_
  refine W.callS (as := [(vi 2), (vr p1)]) 0 [] d51_2 (wq hw 243 rfl) (wq hw 244 rfl) (wq hw 145 rfl) (wq hw 245 rfl) (c75_checkIndex hw hs (hvs_p1 := rfl) (mp1 := mp1)) (by decide) pd_I_B_V rfl rfl rfl rfl (by decide) (fun v D' h => ?_)
  obtain ⟨rfl, rfl⟩ := h
  show W _ _ _ _ _ _ _ _ _ _ _ _ 5 _ []
  refine W.aloadN d51_5 rfl rfl ?_
  refine W.iloadN d51_6 rfl ?_
  refine W.callS (as := [(vr p1), (vi 2)]) 0 [] d51_7 (wq hw 207 rfl) (wq hw 208 rfl) (wq hw 145 rfl) (wq hw 209 rfl) (c11_getChar hw hs (hx3 := hx3) (mp1 := mp1)) (by decide) pd__BI_C rfl rfl rfl rfl (by decide) (fun v D' h => ?_)
  obtain ⟨rfl, rfl⟩ := h
  show W _ _ _ _ _ _ _ _ _ _ _ _ 10 _ [(vi x3)]
  exact W.ireturn d51_10 rfl (Or.inr (Or.inr (Or.inr (Or.inl rfl)))) (nw_char hx3) (by decide) ⟨rfl, rfl⟩
theorem c87_charAt {Z a0} (hw : HW a0 Z) (hs : SF Z) {p1 p2 : Addr} {x3 : Int32} (hx3 : 0 ≤ x3.toInt ∧ x3.toInt ≤ 65535) {e_p2_0 e_p2_1 e_p2_2 e_p2_3 : Value} {w_p1 : Bool} {w_p2 : Bool} {ad_p2 : String} {F : List Ent} (mp1 : (p1, w_p1, oString (vr p2) (vi 1)) ∈ F) (mp2 : (p2, w_p2, ar ad_p2 .byte [e_p2_0, e_p2_1, e_p2_2, e_p2_3, (vi x3.toInt8.toInt32), (vi (x3 >>> ((8 : Int32) &&& 31)).toInt8.toInt32)]) ∈ F) : Con Z EL y37 y37b 2 y37r (rmm 4 0 0 53) [(vr p1), (vi 2)] (F) (fun v D' => (v = some (vi x3) ∧ F = D')) := by
  refine Con.of (ls := #[rv p1, iv 2]) (by decide +kernel) rfl ?_
  refine W.aloadN d30_0 rfl rfl ?_
  refine W.callV (as := []) 0 [] d30_1 (wq hw 84 rfl) (wq hw 85 rfl) (wq hw 87 rfl) (wq hw 87 rfl) (wq hw 86 rfl) (wq hw 3 rfl) (wq hw 88 rfl) (Hp.exa mp1) (c58_isLatin1 hw hs (mp1 := mp1)) (by decide) pd__Z rfl rfl rfl rfl (by decide) (fun v D' h => ?_)
  obtain ⟨rfl, rfl⟩ := h
  show W _ _ _ _ _ _ _ _ _ _ _ _ 4 _ [(vi 0)]
  refine W.ifY 16 d30_4 (y_eq (by decide)) (by decide) ?_
  refine W.aloadN d30_16 rfl rfl ?_
  refine W.getf d30_17 (wq hw 20 rfl) Via.refl mp1 m0 ?_
  refine W.iloadN d30_20 rfl ?_
  refine W.callS (as := [(vr p2), (vi 2)]) 0 [] d30_21 (wq hw 249 rfl) (wq hw 250 rfl) (wq hw 145 rfl) (wq hw 251 rfl) (c88_charAt hw hs (hx3 := hx3) (mp1 := mp2)) (by decide) pd__BI_C rfl rfl rfl rfl (by decide) (fun v D' h => ?_)
  obtain ⟨rfl, rfl⟩ := h
  show W _ _ _ _ _ _ _ _ _ _ _ _ 24 _ [(vi x3)]
  exact W.ireturn d30_24 rfl (Or.inr (Or.inr (Or.inr (Or.inl rfl)))) (nw_char hx3) (by decide) ⟨rfl, rfl⟩
theorem c89_expected {Z a0} (hw : HW a0 Z) (hs : SF Z) {x1 : Int32} (hx1 : 256 ≤ x1.toInt ∧ x1.toInt ≤ 65535) {F : List Ent} : Con Z EL y38 y38b 2 y38r (rmm 0 0 0 0) [(vi x1)] (F) (fun v D' => (v = some (vi x1) ∧ F = D')) := by
  refine Con.of (ls := #[iv x1, uu]) (by decide +kernel) rfl ?_
  refine W.iloadN d34_0 rfl ?_
  refine W.bipush (65) d34_1 (by decide) ?_
  refine W.isub d34_3 ?_
  refine W.istoreN (ls' := #[iv x1, iv (x1 - (65 : Int32))]) d34_4 rfl ?_
  refine W.iloadN d34_5 rfl ?_
  refine W.ifN d34_6 (n_lt (by have := q65; have := a_sub x1 (65 : Int32); have := q0; omega)) ?_
  refine W.iloadN d34_9 rfl ?_
  refine W.bipush (26) d34_10 (by decide) ?_
  refine W.icmpY 21 d34_12 (y_ge (by have := q65; have := a_sub x1 (65 : Int32); have := q26; omega)) (by decide) ?_
  refine W.iloadN d34_21 rfl ?_
  exact W.ireturn d34_22 rfl (Or.inr (Or.inr (Or.inr (Or.inl rfl)))) (nw_char (by omega)) (by decide) ⟨rfl, rfl⟩
theorem c89_expectedm {Z a0} (hw : HW a0 Z) (hs : SF Z) {x1 : Int32} (hx1 : 256 ≤ x1.toInt ∧ x1.toInt ≤ 65535) {F : List Ent} : Con Z EL y38 y38b 2 y38r (rmm 0 0 0 0) [(vi x1)] (F) (fun v D' => v = some (vi (lc x1)) ∧ F = D') := Con.mono (c89_expected hw hs (x1 := x1) (hx1 := hx1)) (fun v D' h => by
  obtain ⟨rfl, rfl⟩ := h
  exact ⟨congrArg (fun z => some (Value.int z)) (lc_of (by omega)), rfl⟩)
theorem c98_checkFromIndexSize {Z a0} (hw : HW a0 Z) (hs : SF Z) {F : List Ent} : Con Z EL y40 y40b 4 y40r (rmm 0 0 0 0) [(vi 0), (vi 1), (vi 3), (sfv Z)] (F) (fun v D' => (v = some (vi 0) ∧ F = D')) := by
  refine Con.of (ls := #[iv 0, iv 1, iv 3, .val (sfv Z)]) (by decide +kernel) (hent_of (ld1 rfl (ld1 rfl (ld1 rfl (ld1 (XT.cat1 hs.2.2.1) ld0)))) rfl) ?_
  refine W.iloadN d45_0 rfl ?_
  refine W.iloadN d45_1 rfl ?_
  refine W.iorK (3 : Int32) d45_2 (by decide) ?_
  refine W.iloadN d45_3 rfl ?_
  refine W.iorK (3 : Int32) d45_4 (by decide) ?_
  refine W.ifN d45_5 (n_lt (by decide)) ?_
  refine W.iloadN d45_8 rfl ?_
  refine W.iloadN d45_9 rfl ?_
  refine W.iloadN d45_10 rfl ?_
  refine W.isubK (3 : Int32) d45_11 (by decide) ?_
  refine W.icmpY 23 d45_12 (y_le (by decide)) (by decide) ?_
  refine W.iloadN d45_23 rfl ?_
  exact W.ireturn d45_24 rfl (Or.inl rfl) rfl (by decide) ⟨rfl, rfl⟩
theorem c97_checkBoundsOffCount {Z a0} (hw : HW a0 Z) (hs : SF Z) {F : List Ent} : Con Z EL y41 y41b 3 y41r (rmm 1 0 0 15) [(vi 0), (vi 1), (vi 3)] (F) (fun v D' => (v = some (vi 0) ∧ F = D')) := by
  refine Con.of (ls := #[iv 0, iv 1, iv 3]) (by decide +kernel) rfl ?_
  refine W.iloadN d44_0 rfl ?_
  refine W.iloadN d44_1 rfl ?_
  refine W.iloadN d44_2 rfl ?_
  refine W.gets d44_3 (wq hw 182 rfl) Via.refl hs.2.2.2.1 ?_
  refine W.callS (as := [(vi 0), (vi 1), (vi 3), (sfv Z)]) 0 [] d44_6 (wq hw 225 rfl) (wq hw 226 rfl) (wq hw 183 rfl) (wq hw 227 rfl) (c98_checkFromIndexSize hw hs) (by decide) pd_IIILjava_util_function_BiFunction__I rfl rfl rfl rfl (by decide) (fun v D' h => ?_)
  obtain ⟨rfl, rfl⟩ := h
  show W _ _ _ _ _ _ _ _ _ _ _ _ 9 _ [(vi 0)]
  exact W.ireturn d44_9 rfl (Or.inl rfl) rfl (by decide) ⟨rfl, rfl⟩
theorem c96_checkBoundsOffCount {Z a0} (hw : HW a0 Z) (hs : SF Z) {p1 : Addr} {vs_p1 : List Value} (hvs_p1 : vs_p1.length = 6) {w_p1 : Bool} {ad_p1 : String} {F : List Ent} (mp1 : (p1, w_p1, ar ad_p1 .byte vs_p1) ∈ F) : Con Z EL y42 y42b 3 y42r (rmm 2 0 0 29) [(vi 0), (vi 1), (vr p1)] (F) (fun v D' => (v = none ∧ F = D')) := by
  refine Con.of (ls := #[iv 0, iv 1, rv p1]) (by decide +kernel) rfl ?_
  refine W.iloadN d42_0 rfl ?_
  refine W.iloadN d42_1 rfl ?_
  refine W.aloadN d42_2 rfl rfl ?_
  refine W.callS (as := [(vr p1)]) 2 [(vi 1), (vi 0)] d42_3 (wq hw 219 rfl) (wq hw 220 rfl) (wq hw 145 rfl) (wq hw 221 rfl) (c62_length hw hs (hvs_p1 := hvs_p1) (mp1 := mp1)) (by decide) pd__B_I rfl rfl rfl rfl (by decide) (fun v D' h => ?_)
  obtain ⟨rfl, rfl⟩ := h
  show W _ _ _ _ _ _ _ _ _ _ _ _ 6 _ [(vi 3), (vi 1), (vi 0)]
  refine W.callS (as := [(vi 0), (vi 1), (vi 3)]) 0 [] d42_6 (wq hw 222 rfl) (wq hw 223 rfl) (wq hw 3 rfl) (wq hw 224 rfl) (c97_checkBoundsOffCount hw hs) (by decide) pd_III_I rfl rfl rfl rfl (by decide) (fun v D' h => ?_)
  obtain ⟨rfl, rfl⟩ := h
  show W _ _ _ _ _ _ _ _ _ _ _ _ 9 _ [(vi 0)]
  refine W.popv d42_9 rfl ?_
  exact W.return_ d42_10 rfl (by decide) ⟨rfl, rfl⟩
theorem c95_inflate {Z a0} (hw : HW a0 Z) (hs : SF Z) {p1 p2 : Addr} {x1 : Int32} (hx1 : 0 ≤ x1.toInt ∧ x1.toInt ≤ 255) {e_p2_2 e_p2_3 e_p2_4 e_p2_5 e_p1_1 e_p1_2 : Value} {ad_p2 : String} {w_p1 : Bool} {ad_p1 : String} {F : List Ent} (mp1 : (p1, w_p1, ar ad_p1 .byte [(vi x1.toInt8.toInt32), e_p1_1, e_p1_2]) ∈ F) : Con Z EL y45 y45b 6 y45r (rmm 3 0 0 43) [(vr p1), (vi 0), (vr p2), (vi 0), (vi 1)] ((p2, true, ar ad_p2 .byte [(vi 0), (vi 0), e_p2_2, e_p2_3, e_p2_4, e_p2_5]) :: F) (fun v D' => (v = none ∧ (p2, true, ar ad_p2 .byte [(vi x1.toInt8.toInt32), (vi (x1 >>> ((8 : Int32) &&& 31)).toInt8.toInt32), e_p2_2, e_p2_3, e_p2_4, e_p2_5]) :: F = D')) := by
  refine Con.of (ls := #[rv p1, iv 0, rv p2, iv 0, iv 1, uu]) (by decide +kernel) rfl ?_
  refine W.iloadN d48_0 rfl ?_
  refine W.iload d48_1 rfl ?_
  refine W.aloadN d48_3 rfl rfl ?_
  refine W.callS (as := [(vi 0), (vi 1), (vr p2)]) 0 [] d48_4 (wq hw 216 rfl) (wq hw 217 rfl) (wq hw 145 rfl) (wq hw 218 rfl) (c96_checkBoundsOffCount hw hs (hvs_p1 := rfl) (mp1 := m0)) (by decide) pd_II_B_V rfl rfl rfl rfl (by decide) (fun v D' h => ?_)
  obtain ⟨rfl, rfl⟩ := h
  show W _ _ _ _ _ _ _ _ _ _ _ _ 7 _ []
  refine W.iconst (0) d48_7 (by decide) ?_
  refine W.istore (ls' := #[rv p1, iv 0, rv p2, iv 0, iv 1, iv 0]) d48_8 rfl ?_
  refine W.iload d48_10 rfl ?_
  refine W.iload d48_12 rfl ?_
  refine W.icmpN d48_14 (n_ge (by decide)) ?_
  refine W.aloadN d48_17 rfl rfl ?_
  refine W.iloadN d48_18 rfl ?_
  refine W.iincK (ls' := #[rv p1, iv 0, rv p2, iv 1, iv 1, iv 0]) (1) (1 : Int32) d48_19 (by decide) rfl (by decide) rfl ?_
  refine W.aloadN d48_22 rfl rfl ?_
  refine W.iloadN d48_23 rfl ?_
  refine W.iincK (ls' := #[rv p1, iv 1, rv p2, iv 1, iv 1, iv 0]) (1) (1 : Int32) d48_24 (by decide) rfl (by decide) rfl ?_
  refine W.baload 0 d48_27 (mS mp1) ix0 rfl ?_
  refine W.sipush (255) d48_28 (by decide) ?_
  refine W.iandK x1 d48_31 (z_b255 hx1) ?_
  refine W.callS (as := [(vr p2), (vi 0), (vi x1)]) 0 [] d48_32 (wq hw 201 rfl) (wq hw 202 rfl) (wq hw 145 rfl) (wq hw 203 rfl) (c8_putChar hw hs (hx1 := (by omega))) (by decide) pd__BII_V rfl rfl rfl rfl (by decide) (fun v D' h => ?_)
  obtain ⟨rfl, rfl⟩ := h
  show W _ _ _ _ _ _ _ _ _ _ _ _ 35 _ []
  refine W.iincK (ls' := #[rv p1, iv 1, rv p2, iv 1, iv 1, iv 1]) (1) (1 : Int32) d48_35 (by decide) rfl (by decide) rfl ?_
  refine W.goto 10 d48_38 (by decide) ?_
  refine W.iload d48_10 rfl ?_
  refine W.iload d48_12 rfl ?_
  refine W.icmpY 41 d48_14 (y_ge (by decide)) (by decide) ?_
  exact W.return_ d48_41 rfl (by decide) ⟨rfl, rfl⟩
theorem c94_inflate {Z a0} (hw : HW a0 Z) (hs : SF Z) {p1 p2 : Addr} {x1 : Int32} (hx1 : 0 ≤ x1.toInt ∧ x1.toInt ≤ 255) {e_p2_2 e_p2_3 e_p2_4 e_p2_5 e_p1_1 e_p1_2 : Value} {ad_p2 : String} {w_p1 : Bool} {ad_p1 : String} {F : List Ent} (mp1 : (p1, w_p1, ar ad_p1 .byte [(vi x1.toInt8.toInt32), e_p1_1, e_p1_2]) ∈ F) : Con Z EL y46 y46b 5 y46r (rmm 4 0 0 60) [(vr p1), (vi 0), (vr p2), (vi 0), (vi 1)] ((p2, true, ar ad_p2 .byte [(vi 0), (vi 0), e_p2_2, e_p2_3, e_p2_4, e_p2_5]) :: F) (fun v D' => (v = none ∧ (p2, true, ar ad_p2 .byte [(vi x1.toInt8.toInt32), (vi (x1 >>> ((8 : Int32) &&& 31)).toInt8.toInt32), e_p2_2, e_p2_3, e_p2_4, e_p2_5]) :: F = D')) := by
  refine Con.of (ls := #[rv p1, iv 0, rv p2, iv 0, iv 1]) (by decide +kernel) rfl ?_
  refine W.aloadN d47_0 rfl rfl ?_
  refine W.iloadN d47_1 rfl ?_
  refine W.aloadN d47_2 rfl rfl ?_
  refine W.iloadN d47_3 rfl ?_
  refine W.iload d47_4 rfl ?_
  refine W.callS (as := [(vr p1), (vi 0), (vr p2), (vi 0), (vi 1)]) 0 [] d47_6 (wq hw 237 rfl) (wq hw 238 rfl) (wq hw 145 rfl) (wq hw 239 rfl) (c95_inflate hw hs (hx1 := hx1) (mp1 := mp1)) (by decide) pd__BI_BII_V rfl rfl rfl rfl (by decide) (fun v D' h => ?_)
  obtain ⟨rfl, rfl⟩ := h
  show W _ _ _ _ _ _ _ _ _ _ _ _ 9 _ []
  exact W.return_ d47_9 rfl (by decide) ⟨rfl, rfl⟩
theorem c93_inflate {Z a0} (hw : HW a0 Z) (hs : SF Z) {p1 p2 : Addr} {x1 : Int32} (hx1 : 0 ≤ x1.toInt ∧ x1.toInt ≤ 255) {f_p1_3 e_p2_1 e_p2_2 : Value} {w_p2 : Bool} {ad_p2 : String} {F : List Ent} (mp2 : (p2, w_p2, ar ad_p2 .byte [(vi x1.toInt8.toInt32), e_p2_1, e_p2_2]) ∈ F) : Con Z EL y47 y47b 2 y47r (rmm 5 1 6 76) [(vr p1)] ((p1, true, oStringBuilder (vr p2) (vi 0) (vi 1) f_p1_3) :: F) (fun v D' => (∃ a1 : Addr, v = none ∧ (a1, true, ar "[B" .byte [(vi x1.toInt8.toInt32), (vi (x1 >>> ((8 : Int32) &&& 31)).toInt8.toInt32), (vi 0), (vi 0), (vi 0), (vi 0)]) :: (p1, true, oStringBuilder (vr a1) (vi 1) (vi 1) f_p1_3) :: F = D')) := by
  refine Con.of (ls := #[rv p1, uu]) (by decide +kernel) rfl ?_
  refine W.aloadN d46_0 rfl rfl ?_
  refine W.callV (as := []) 0 [] d46_1 (wq hw 167 rfl) (wq hw 125 rfl) (wq hw 127 rfl) (wq hw 127 rfl) (wq hw 126 rfl) (wq hw 71 rfl) (wq hw 128 rfl) (Hp.exa m0) (c30_isLatin1 hw hs (mp1 := m0)) (by decide) pd__Z rfl rfl rfl rfl (by decide) (fun v D' h => ?_)
  obtain ⟨rfl, rfl⟩ := h
  show W _ _ _ _ _ _ _ _ _ _ _ _ 4 _ [(vi 1)]
  refine W.ifY 8 d46_4 (y_ne (by decide)) (by decide) ?_
  refine W.aloadN d46_8 rfl rfl ?_
  refine W.getf d46_9 (wq hw 75 rfl) Via.refl m0 m0 ?_
  refine W.alen (3) d46_12 (mS mp2) rfl ?_
  refine W.callS (as := [(vi 3)]) 0 [] d46_13 (wq hw 233 rfl) (wq hw 195 rfl) (wq hw 145 rfl) (wq hw 196 rfl) (c6_newBytesFor hw hs) (by decide) pd_I__B rfl rfl rfl rfl (by decide) (fun v D' h => ?_)
  obtain ⟨a1, rfl, rfl⟩ := h
  show W _ _ _ _ _ _ _ _ _ _ _ _ 16 _ [(vr a1)]
  refine W.astoreN (ls' := #[rv p1, rv a1]) d46_16 rfl rfl ?_
  refine W.aloadN d46_17 rfl rfl ?_
  refine W.getf d46_18 (wq hw 75 rfl) Via.refl m1 m0 ?_
  refine W.iconst (0) d46_21 (by decide) ?_
  refine W.aloadN d46_22 rfl rfl ?_
  refine W.iconst (0) d46_23 (by decide) ?_
  refine W.aloadN d46_24 rfl rfl ?_
  refine W.getf d46_25 (wq hw 122 rfl) Via.refl m1 m2 ?_
  refine W.callS (as := [(vr p2), (vi 0), (vr a1), (vi 0), (vi 1)]) 0 [] d46_28 (wq hw 234 rfl) (wq hw 235 rfl) (wq hw 91 rfl) (wq hw 236 rfl) (c94_inflate hw hs (hx1 := hx1) (mp1 := (mS mp2))) (by decide) pd__BI_BII_V rfl rfl rfl rfl (by decide) (fun v D' h => ?_)
  obtain ⟨rfl, rfl⟩ := h
  show W _ _ _ _ _ _ _ _ _ _ _ _ 31 _ []
  refine W.aloadN d46_31 rfl rfl ?_
  refine W.aloadN d46_32 rfl rfl ?_
  refine W.putf (D' := (a1, true, ar "[B" .byte [(vi x1.toInt8.toInt32), (vi (x1 >>> ((8 : Int32) &&& 31)).toInt8.toInt32), (vi 0), (vi 0), (vi 0), (vi 0)]) :: (p1, true, oStringBuilder (vr a1) (vi 0) (vi 1) f_p1_3) :: F) 1 0 d46_33 (wq hw 75 rfl) Via.refl rfl rfl (Or.inl (wq hw 76 rfl)) (wq hw 51 rfl) pf_B rfl rfl rfl ?_
  refine W.aloadN d46_36 rfl rfl ?_
  refine W.iconst (1) d46_37 (by decide) ?_
  refine W.putf (D' := (a1, true, ar "[B" .byte [(vi x1.toInt8.toInt32), (vi (x1 >>> ((8 : Int32) &&& 31)).toInt8.toInt32), (vi 0), (vi 0), (vi 0), (vi 0)]) :: (p1, true, oStringBuilder (vr a1) (vi 1) (vi 1) f_p1_3) :: F) 1 1 d46_38 (wq hw 77 rfl) Via.refl rfl rfl (Or.inl (wq hw 78 rfl)) (wq hw 51 rfl) pfB (nw_byte (by decide)) (ft_byte (by decide)) rfl ?_
  exact W.return_ d46_41 rfl (by decide) ⟨a1, rfl, rfl⟩
theorem c99_putCharSB {Z a0} (hw : HW a0 Z) (hs : SF Z) {p1 : Addr} {x1 : Int32} (hx1 : 0 ≤ x1.toInt ∧ x1.toInt ≤ 65535) {e_p1_0 e_p1_1 e_p1_4 e_p1_5 : Value} {ad_p1 : String} {F : List Ent} : Con Z EL y49 y49b 3 y49r (rmm 3 0 0 40) [(vr p1), (vi 1), (vi x1)] ((p1, true, ar ad_p1 .byte [e_p1_0, e_p1_1, (vi 0), (vi 0), e_p1_4, e_p1_5]) :: F) (fun v D' => (v = none ∧ (p1, true, ar ad_p1 .byte [e_p1_0, e_p1_1, (vi x1.toInt8.toInt32), (vi (x1 >>> ((8 : Int32) &&& 31)).toInt8.toInt32), e_p1_4, e_p1_5]) :: F = D')) := by
  refine Con.of (ls := #[rv p1, iv 1, iv x1]) (by decide +kernel) rfl ?_
  refine W.iloadN d49_0 rfl ?_
  refine W.aloadN d49_1 rfl rfl ?_
  refine W.callS (as := [(vi 1), (vr p1)]) 0 [] d49_2 (wq hw 243 rfl) (wq hw 244 rfl) (wq hw 145 rfl) (wq hw 245 rfl) (c86_checkIndex hw hs (hvs_p1 := rfl) (mp1 := m0)) (by decide) pd_I_B_V rfl rfl rfl rfl (by decide) (fun v D' h => ?_)
  obtain ⟨rfl, rfl⟩ := h
  show W _ _ _ _ _ _ _ _ _ _ _ _ 5 _ []
  refine W.aloadN d49_5 rfl rfl ?_
  refine W.iloadN d49_6 rfl ?_
  refine W.iloadN d49_7 rfl ?_
  refine W.callS (as := [(vr p1), (vi 1), (vi x1)]) 0 [] d49_8 (wq hw 201 rfl) (wq hw 202 rfl) (wq hw 145 rfl) (wq hw 203 rfl) (c9_putChar hw hs (hx1 := hx1)) (by decide) pd__BII_V rfl rfl rfl rfl (by decide) (fun v D' h => ?_)
  obtain ⟨rfl, rfl⟩ := h
  show W _ _ _ _ _ _ _ _ _ _ _ _ 11 _ []
  exact W.return_ d49_11 rfl (by decide) ⟨rfl, rfl⟩
theorem c92_append {Z a0} (hw : HW a0 Z) (hs : SF Z) {p1 p2 : Addr} {x1 : Int32} (hx1 : 256 ≤ x1.toInt ∧ x1.toInt ≤ 65535) {x2 : Int32} (hx2 : 0 ≤ x2.toInt ∧ x2.toInt ≤ 255) {f_p1_3 e_p2_1 e_p2_2 : Value} {w_p2 : Bool} {ad_p2 : String} {F : List Ent} (mp2 : (p2, w_p2, ar ad_p2 .byte [(vi x2.toInt8.toInt32), e_p2_1, e_p2_2]) ∈ F) : Con Z EL y24 y24b 2 y24r (rmm 6 1 6 89) [(vr p1), (vi x1)] ((p1, true, oStringBuilder (vr p2) (vi 0) (vi 1) f_p1_3) :: F) (fun v D' => (∃ a1 : Addr, v = some (vr p1) ∧ (a1, true, ar "[B" .byte [(vi x2.toInt8.toInt32), (vi (x2 >>> ((8 : Int32) &&& 31)).toInt8.toInt32), (vi x1.toInt8.toInt32), (vi (x1 >>> ((8 : Int32) &&& 31)).toInt8.toInt32), (vi 0), (vi 0)]) :: (p1, true, oStringBuilder (vr a1) (vi 1) (vi 2) f_p1_3) :: F = D')) := by
  refine Con.of (ls := #[rv p1, iv x1]) (by decide +kernel) rfl ?_
  refine W.aloadN d27_0 rfl rfl ?_
  refine W.aloadN d27_1 rfl rfl ?_
  refine W.getf d27_2 (wq hw 122 rfl) Via.refl m0 m2 ?_
  refine W.iconst (1) d27_5 (by decide) ?_
  refine W.iaddK (2 : Int32) d27_6 (by decide) ?_
  refine W.callP (as := [(vi 2)]) 0 [] d27_7 (wq hw 162 rfl) (wq hw 163 rfl) (wq hw 165 rfl) (wq hw 164 rfl) (wq hw 71 rfl) (wq hw 166 rfl) (Hp.exa m0) (c34_ensureCapacityInternal hw hs (hvs_p2 := rfl) (mp1 := m0) (mp2 := (mS mp2))) (by decide) pd_I_V rfl rfl rfl rfl (by decide) (fun v D' h => ?_)
  obtain ⟨rfl, rfl⟩ := h
  show W _ _ _ _ _ _ _ _ _ _ _ _ 10 _ []
  refine W.aloadN d27_10 rfl rfl ?_
  refine W.callV (as := []) 0 [] d27_11 (wq hw 167 rfl) (wq hw 125 rfl) (wq hw 127 rfl) (wq hw 127 rfl) (wq hw 126 rfl) (wq hw 71 rfl) (wq hw 128 rfl) (Hp.exa m0) (c30_isLatin1 hw hs (mp1 := m0)) (by decide) pd__Z rfl rfl rfl rfl (by decide) (fun v D' h => ?_)
  obtain ⟨rfl, rfl⟩ := h
  show W _ _ _ _ _ _ _ _ _ _ _ _ 14 _ [(vi 1)]
  refine W.ifN d27_14 (n_eq (by decide)) ?_
  refine W.iloadN d27_17 rfl ?_
  refine W.callS (as := [(vi x1)]) 0 [] d27_18 (wq hw 168 rfl) (wq hw 169 rfl) (wq hw 91 rfl) (wq hw 170 rfl) (c67_canEncode hw hs (hx1 := hx1)) (by decide) pd_C_Z rfl rfl rfl rfl (by decide) (fun v D' h => ?_)
  obtain ⟨rfl, rfl⟩ := h
  show W _ _ _ _ _ _ _ _ _ _ _ _ 21 _ [(vi 0)]
  refine W.ifY 45 d27_21 (y_eq (by decide)) (by decide) ?_
  refine W.aloadN d27_45 rfl rfl ?_
  refine W.callV (as := []) 0 [] d27_46 (wq hw 167 rfl) (wq hw 125 rfl) (wq hw 127 rfl) (wq hw 127 rfl) (wq hw 126 rfl) (wq hw 71 rfl) (wq hw 128 rfl) (Hp.exa m0) (c30_isLatin1 hw hs (mp1 := m0)) (by decide) pd__Z rfl rfl rfl rfl (by decide) (fun v D' h => ?_)
  obtain ⟨rfl, rfl⟩ := h
  show W _ _ _ _ _ _ _ _ _ _ _ _ 49 _ [(vi 1)]
  refine W.ifN d27_49 (n_eq (by decide)) ?_
  refine W.aloadN d27_52 rfl rfl ?_
  refine W.callP (as := []) 0 [] d27_53 (wq hw 228 rfl) (wq hw 229 rfl) (wq hw 231 rfl) (wq hw 230 rfl) (wq hw 71 rfl) (wq hw 232 rfl) (Hp.exa m0) (c93_inflate hw hs (hx1 := hx2) (mp2 := mp2)) (by decide) pd__V rfl rfl rfl rfl (by decide) (fun v D' h => ?_)
  obtain ⟨a1, rfl, rfl⟩ := h
  show W _ _ _ _ _ _ _ _ _ _ _ _ 56 _ []
  refine W.aloadN d27_56 rfl rfl ?_
  refine W.getf d27_57 (wq hw 75 rfl) Via.refl m1 m0 ?_
  refine W.aloadN d27_60 rfl rfl ?_
  refine W.dup d27_61 rfl ?_
  refine W.getf d27_62 (wq hw 122 rfl) Via.refl m1 m2 ?_
  refine W.dupX1 d27_65 rfl rfl ?_
  refine W.iconst (1) d27_66 (by decide) ?_
  refine W.iaddK (2 : Int32) d27_67 (by decide) ?_
  refine W.putf (D' := (a1, true, ar "[B" .byte [(vi x2.toInt8.toInt32), (vi (x2 >>> ((8 : Int32) &&& 31)).toInt8.toInt32), (vi 0), (vi 0), (vi 0), (vi 0)]) :: (p1, true, oStringBuilder (vr a1) (vi 1) (vi 2) f_p1_3) :: F) 1 2 d27_68 (wq hw 122 rfl) Via.refl rfl rfl (Or.inl (wq hw 123 rfl)) (wq hw 51 rfl) pfI rfl rfl rfl ?_
  refine W.iloadN d27_71 rfl ?_
  refine W.callS (as := [(vr a1), (vi 1), (vi x1)]) 0 [] d27_72 (wq hw 240 rfl) (wq hw 241 rfl) (wq hw 145 rfl) (wq hw 242 rfl) (c99_putCharSB hw hs (hx1 := (by omega))) (by decide) pd__BII_V rfl rfl rfl rfl (by decide) (fun v D' h => ?_)
  obtain ⟨rfl, rfl⟩ := h
  show W _ _ _ _ _ _ _ _ _ _ _ _ 75 _ []
  refine W.aloadN d27_75 rfl rfl ?_
  exact W.areturn d27_76 rfl rfl rfl (by decide) ⟨a1, rfl, rfl⟩
theorem c91_append {Z a0} (hw : HW a0 Z) (hs : SF Z) {p1 p2 : Addr} {x1 : Int32} (hx1 : 256 ≤ x1.toInt ∧ x1.toInt ≤ 65535) {x2 : Int32} (hx2 : 0 ≤ x2.toInt ∧ x2.toInt ≤ 255) {f_p1_3 e_p2_1 e_p2_2 : Value} {w_p2 : Bool} {ad_p2 : String} {F : List Ent} (mp2 : (p2, w_p2, ar ad_p2 .byte [(vi x2.toInt8.toInt32), e_p2_1, e_p2_2]) ∈ F) : Con Z EL y25 y25b 2 y25r (rmm 7 1 6 102) [(vr p1), (vi x1)] ((p1, true, oStringBuilder (vr p2) (vi 0) (vi 1) f_p1_3) :: F) (fun v D' => (∃ a1 : Addr, v = some (vr p1) ∧ (a1, true, ar "[B" .byte [(vi x2.toInt8.toInt32), (vi (x2 >>> ((8 : Int32) &&& 31)).toInt8.toInt32), (vi x1.toInt8.toInt32), (vi (x1 >>> ((8 : Int32) &&& 31)).toInt8.toInt32), (vi 0), (vi 0)]) :: (p1, true, oStringBuilder (vr a1) (vi 1) (vi 2) f_p1_3) :: F = D')) := by
  refine Con.of (ls := #[rv p1, iv x1]) (by decide +kernel) rfl ?_
  refine W.aloadN d26_0 rfl rfl ?_
  refine W.iloadN d26_1 rfl ?_
  refine W.callUp (as := [(vi x1)]) 0 [] d26_2 (wq hw 158 rfl) (same_self (by rfl) (by decide) (wq hw 159 rfl) (wq hw 110 rfl) (wq hw 111 rfl)) (wq hw 159 rfl) (wq hw 120 rfl) (by decide) (wq hw 71 rfl) (wq hw 161 rfl) (Hp.ins m0) (c92_append hw hs (hx1 := hx1) (hx2 := hx2) (mp2 := mp2)) pd_C_Ljava_lang_AbstractStringBuilder_ rfl rfl rfl rfl (by decide) (fun v D' h => ?_)
  obtain ⟨a1, rfl, rfl⟩ := h
  show W _ _ _ _ _ _ _ _ _ _ _ _ 5 _ [(vr p1)]
  refine W.popv d26_5 rfl ?_
  refine W.aloadN d26_6 rfl rfl ?_
  exact W.areturn d26_7 rfl rfl rfl (by decide) ⟨a1, rfl, rfl⟩
theorem c102_ensureCapacityInternal {Z a0} (hw : HW a0 Z) (hs : SF Z) {p1 p2 : Addr} {f_p1_2 f_p1_3 : Value} {vs_p2 : List Value} (hvs_p2 : vs_p2.length = 6) {w_p1 : Bool} {w_p2 : Bool} {ad_p2 : String} {F : List Ent} (mp1 : (p1, w_p1, oStringBuilder (vr p2) (vi 1) f_p1_2 f_p1_3) ∈ F) (mp2 : (p2, w_p2, ar ad_p2 .byte vs_p2) ∈ F) : Con Z EL y21 y21b 3 y21r (rmm 0 0 0 0) [(vr p1), (vi 3)] (F) (fun v D' => (v = none ∧ F = D')) := by
  refine Con.of (ls := #[rv p1, iv 3, uu]) (by decide +kernel) rfl ?_
  refine W.aloadN d28_0 rfl rfl ?_
  refine W.getf d28_1 (wq hw 75 rfl) Via.refl mp1 m0 ?_
  refine W.alen (6) d28_4 mp2 (by rw [hvs_p2]; rfl) ?_
  refine W.aloadN d28_5 rfl rfl ?_
  refine W.getf d28_6 (wq hw 77 rfl) Via.refl mp1 m1 ?_
  refine W.ishrK (3 : Int32) d28_9 (by decide) ?_
  refine W.istoreN (ls' := #[rv p1, iv 3, iv 3]) d28_10 rfl ?_
  refine W.iloadN d28_11 rfl ?_
  refine W.iloadN d28_12 rfl ?_
  refine W.isubK (0 : Int32) d28_13 (by decide) ?_
  refine W.ifY 38 d28_14 (y_le (by decide)) (by decide) ?_
  exact W.return_ d28_38 rfl (by decide) ⟨rfl, rfl⟩
theorem c101_append {Z a0} (hw : HW a0 Z) (hs : SF Z) {p1 p2 : Addr} {x1 : Int32} (hx1 : 0 ≤ x1.toInt ∧ x1.toInt ≤ 65535) {f_p1_3 e_p2_0 e_p2_1 e_p2_2 e_p2_3 : Value} {ad_p2 : String} {F : List Ent} : Con Z EL y24 y24b 2 y24r (rmm 4 0 0 54) [(vr p1), (vi x1)] ((p1, true, oStringBuilder (vr p2) (vi 1) (vi 2) f_p1_3) :: (p2, true, ar ad_p2 .byte [e_p2_0, e_p2_1, e_p2_2, e_p2_3, (vi 0), (vi 0)]) :: F) (fun v D' => (v = some (vr p1) ∧ (p2, true, ar ad_p2 .byte [e_p2_0, e_p2_1, e_p2_2, e_p2_3, (vi x1.toInt8.toInt32), (vi (x1 >>> ((8 : Int32) &&& 31)).toInt8.toInt32)]) :: (p1, true, oStringBuilder (vr p2) (vi 1) (vi 3) f_p1_3) :: F = D')) := by
  refine Con.of (ls := #[rv p1, iv x1]) (by decide +kernel) rfl ?_
  refine W.aloadN d27_0 rfl rfl ?_
  refine W.aloadN d27_1 rfl rfl ?_
  refine W.getf d27_2 (wq hw 122 rfl) Via.refl m0 m2 ?_
  refine W.iconst (1) d27_5 (by decide) ?_
  refine W.iaddK (3 : Int32) d27_6 (by decide) ?_
  refine W.callP (as := [(vi 3)]) 0 [] d27_7 (wq hw 162 rfl) (wq hw 163 rfl) (wq hw 165 rfl) (wq hw 164 rfl) (wq hw 71 rfl) (wq hw 166 rfl) (Hp.exa m0) (c102_ensureCapacityInternal hw hs (hvs_p2 := rfl) (mp1 := m0) (mp2 := m1)) (by decide) pd_I_V rfl rfl rfl rfl (by decide) (fun v D' h => ?_)
  obtain ⟨rfl, rfl⟩ := h
  show W _ _ _ _ _ _ _ _ _ _ _ _ 10 _ []
  refine W.aloadN d27_10 rfl rfl ?_
  refine W.callV (as := []) 0 [] d27_11 (wq hw 167 rfl) (wq hw 125 rfl) (wq hw 127 rfl) (wq hw 127 rfl) (wq hw 126 rfl) (wq hw 71 rfl) (wq hw 128 rfl) (Hp.exa m0) (c79_isLatin1 hw hs (mp1 := m0)) (by decide) pd__Z rfl rfl rfl rfl (by decide) (fun v D' h => ?_)
  obtain ⟨rfl, rfl⟩ := h
  show W _ _ _ _ _ _ _ _ _ _ _ _ 14 _ [(vi 0)]
  refine W.ifY 45 d27_14 (y_eq (by decide)) (by decide) ?_
  refine W.aloadN d27_45 rfl rfl ?_
  refine W.callV (as := []) 0 [] d27_46 (wq hw 167 rfl) (wq hw 125 rfl) (wq hw 127 rfl) (wq hw 127 rfl) (wq hw 126 rfl) (wq hw 71 rfl) (wq hw 128 rfl) (Hp.exa m0) (c79_isLatin1 hw hs (mp1 := m0)) (by decide) pd__Z rfl rfl rfl rfl (by decide) (fun v D' h => ?_)
  obtain ⟨rfl, rfl⟩ := h
  show W _ _ _ _ _ _ _ _ _ _ _ _ 49 _ [(vi 0)]
  refine W.ifY 56 d27_49 (y_eq (by decide)) (by decide) ?_
  refine W.aloadN d27_56 rfl rfl ?_
  refine W.getf d27_57 (wq hw 75 rfl) Via.refl m0 m0 ?_
  refine W.aloadN d27_60 rfl rfl ?_
  refine W.dup d27_61 rfl ?_
  refine W.getf d27_62 (wq hw 122 rfl) Via.refl m0 m2 ?_
  refine W.dupX1 d27_65 rfl rfl ?_
  refine W.iconst (1) d27_66 (by decide) ?_
  refine W.iaddK (3 : Int32) d27_67 (by decide) ?_
  refine W.putf (D' := (p1, true, oStringBuilder (vr p2) (vi 1) (vi 3) f_p1_3) :: (p2, true, ar ad_p2 .byte [e_p2_0, e_p2_1, e_p2_2, e_p2_3, (vi 0), (vi 0)]) :: F) 0 2 d27_68 (wq hw 122 rfl) Via.refl rfl rfl (Or.inl (wq hw 123 rfl)) (wq hw 51 rfl) pfI rfl rfl rfl ?_
  refine W.iloadN d27_71 rfl ?_
  refine W.front 1 (D' := (p2, true, ar ad_p2 .byte [e_p2_0, e_p2_1, e_p2_2, e_p2_3, (vi 0), (vi 0)]) :: (p1, true, oStringBuilder (vr p2) (vi 1) (vi 3) f_p1_3) :: F) rfl rfl ?_
  refine W.callS (as := [(vr p2), (vi 2), (vi x1)]) 0 [] d27_72 (wq hw 240 rfl) (wq hw 241 rfl) (wq hw 145 rfl) (wq hw 242 rfl) (c74_putCharSB hw hs (hx1 := hx1)) (by decide) pd__BII_V rfl rfl rfl rfl (by decide) (fun v D' h => ?_)
  obtain ⟨rfl, rfl⟩ := h
  show W _ _ _ _ _ _ _ _ _ _ _ _ 75 _ []
  refine W.aloadN d27_75 rfl rfl ?_
  exact W.areturn d27_76 rfl rfl rfl (by decide) ⟨rfl, rfl⟩
theorem c100_append {Z a0} (hw : HW a0 Z) (hs : SF Z) {p1 p2 : Addr} {x1 : Int32} (hx1 : 0 ≤ x1.toInt ∧ x1.toInt ≤ 65535) {f_p1_3 e_p2_0 e_p2_1 e_p2_2 e_p2_3 : Value} {ad_p2 : String} {F : List Ent} : Con Z EL y25 y25b 2 y25r (rmm 5 0 0 67) [(vr p1), (vi x1)] ((p1, true, oStringBuilder (vr p2) (vi 1) (vi 2) f_p1_3) :: (p2, true, ar ad_p2 .byte [e_p2_0, e_p2_1, e_p2_2, e_p2_3, (vi 0), (vi 0)]) :: F) (fun v D' => (v = some (vr p1) ∧ (p2, true, ar ad_p2 .byte [e_p2_0, e_p2_1, e_p2_2, e_p2_3, (vi x1.toInt8.toInt32), (vi (x1 >>> ((8 : Int32) &&& 31)).toInt8.toInt32)]) :: (p1, true, oStringBuilder (vr p2) (vi 1) (vi 3) f_p1_3) :: F = D')) := by
  refine Con.of (ls := #[rv p1, iv x1]) (by decide +kernel) rfl ?_
  refine W.aloadN d26_0 rfl rfl ?_
  refine W.iloadN d26_1 rfl ?_
  refine W.callUp (as := [(vi x1)]) 0 [] d26_2 (wq hw 158 rfl) (same_self (by rfl) (by decide) (wq hw 159 rfl) (wq hw 110 rfl) (wq hw 111 rfl)) (wq hw 159 rfl) (wq hw 120 rfl) (by decide) (wq hw 71 rfl) (wq hw 161 rfl) (Hp.ins m0) (c101_append hw hs (hx1 := hx1)) pd_C_Ljava_lang_AbstractStringBuilder_ rfl rfl rfl rfl (by decide) (fun v D' h => ?_)
  obtain ⟨rfl, rfl⟩ := h
  show W _ _ _ _ _ _ _ _ _ _ _ _ 5 _ [(vr p1)]
  refine W.popv d26_5 rfl ?_
  refine W.aloadN d26_6 rfl rfl ?_
  exact W.areturn d26_7 rfl rfl rfl (by decide) ⟨rfl, rfl⟩
theorem c106_copyOfRange {Z a0} (hw : HW a0 Z) (hs : SF Z) {p1 : Addr} {x1 : Int32} (hx1 : 0 ≤ x1.toInt ∧ x1.toInt ≤ 255) {x2 : Int32} (hx2 : 256 ≤ x2.toInt ∧ x2.toInt ≤ 65535) {x3 : Int32} (hx3 : 0 ≤ x3.toInt ∧ x3.toInt ≤ 65535) {w_p1 : Bool} {F : List Ent} (mp1 : (p1, w_p1, ar "[B" .byte [(vi x1.toInt8.toInt32), (vi (x1 >>> ((8 : Int32) &&& 31)).toInt8.toInt32), (vi x2.toInt8.toInt32), (vi (x2 >>> ((8 : Int32) &&& 31)).toInt8.toInt32), (vi x3.toInt8.toInt32), (vi (x3 >>> ((8 : Int32) &&& 31)).toInt8.toInt32)]) ∈ F) : Con Z EL y29 y29b 3 y29r (rmm 1 1 6 14) [(vr p1), (vi 0), (vi 6)] (F) (fun v D' => (∃ a1 : Addr, v = some (vr a1) ∧ (a1, true, ar "[B" .byte [(vi x1.toInt8.toInt32), (vi (x1 >>> ((8 : Int32) &&& 31)).toInt8.toInt32), (vi x2.toInt8.toInt32), (vi (x2 >>> ((8 : Int32) &&& 31)).toInt8.toInt32), (vi x3.toInt8.toInt32), (vi (x3 >>> ((8 : Int32) &&& 31)).toInt8.toInt32)]) :: F = D')) := by
  refine Con.of (ls := #[rv p1, iv 0, iv 6]) (by decide +kernel) rfl ?_
  refine W.iloadN d22_0 rfl ?_
  refine W.ifN d22_1 (n_ne (by decide)) ?_
  refine W.iloadN d22_4 rfl ?_
  refine W.aloadN d22_5 rfl rfl ?_
  refine W.alen (6) d22_6 mp1 rfl ?_
  refine W.icmpY 17 d22_7 (y_eq (by decide)) (by decide) ?_
  refine W.aloadN d22_17 rfl rfl ?_
  refine W.clone 0 6 d22_18 (wq hw 133 rfl) (wq hw 134 rfl) (wq hw 138 rfl) (wq hw 136 rfl) (wq hw 137 rfl) (wq hw 139 rfl) mp1 (by decide) rfl rfl rfl (by decide) (fun a1 => ?_)
  show W _ _ _ _ _ _ _ _ _ _ _ _ 21 _ [(vr a1)]
  refine W.castY d22_21 (wq hw 140 rfl) (Hp.insA m0 (by decide)) ?_
  exact W.areturn d22_24 rfl rfl rfl (by decide) ⟨a1, rfl, rfl⟩
theorem c105_init {Z a0} (hw : HW a0 Z) (hs : SF Z) {p1 p2 p3 : Addr} {x1 : Int32} (hx1 : 0 ≤ x1.toInt ∧ x1.toInt ≤ 255) {x2 : Int32} (hx2 : 256 ≤ x2.toInt ∧ x2.toInt ≤ 65535) {x3 : Int32} (hx3 : 0 ≤ x3.toInt ∧ x3.toInt ≤ 65535) {w_p2 : Bool} {w_p3 : Bool} {F : List Ent} (mp2 : (p2, w_p2, oStringBuilder (vr p3) (vi 1) (vi 3) (vi 0)) ∈ F) (mp3 : (p3, w_p3, ar "[B" .byte [(vi x1.toInt8.toInt32), (vi (x1 >>> ((8 : Int32) &&& 31)).toInt8.toInt32), (vi x2.toInt8.toInt32), (vi (x2 >>> ((8 : Int32) &&& 31)).toInt8.toInt32), (vi x3.toInt8.toInt32), (vi (x3 >>> ((8 : Int32) &&& 31)).toInt8.toInt32)]) ∈ F) : Con Z EL y30 y30b 5 y30r (rmm 2 1 6 29) [(vr p1), (vr p2), .null] ((p1, true, oString .null (vi 0)) :: F) (fun v D' => (∃ a1 : Addr, v = none ∧ (a1, true, ar "[B" .byte [(vi x1.toInt8.toInt32), (vi (x1 >>> ((8 : Int32) &&& 31)).toInt8.toInt32), (vi x2.toInt8.toInt32), (vi (x2 >>> ((8 : Int32) &&& 31)).toInt8.toInt32), (vi x3.toInt8.toInt32), (vi (x3 >>> ((8 : Int32) &&& 31)).toInt8.toInt32)]) :: (p1, true, oString (vr a1) (vi 1)) :: F = D')) := by
  refine Con.of (ls := #[rv p1, rv p2, .val .null, uu, uu]) (by decide +kernel) rfl ?_
  refine W.aloadN d17_0 rfl rfl ?_
  refine W.initO 0 d17_1 (wq hw 11 rfl) (wq hw 12 rfl) (wq hw 13 rfl) rfl rfl (by decide) ?_
  refine W.aloadN d17_4 rfl rfl ?_
  refine W.callV (as := []) 0 [] d17_5 (wq hw 108 rfl) (wq hw 109 rfl) (wq hw 111 rfl) (wq hw 111 rfl) (wq hw 110 rfl) (wq hw 71 rfl) (wq hw 112 rfl) (Hp.exa (mS mp2)) (c41_getValue hw hs (mp1 := (mS mp2))) (by decide) pd___B rfl rfl rfl rfl (by decide) (fun v D' h => ?_)
  obtain ⟨rfl, rfl⟩ := h
  show W _ _ _ _ _ _ _ _ _ _ _ _ 8 _ [(vr p3)]
  refine W.astoreN (ls' := #[rv p1, rv p2, .val .null, rv p3, uu]) d17_8 rfl rfl ?_
  refine W.aloadN d17_9 rfl rfl ?_
  refine W.callVN (as := []) 0 [] d17_10 (wq hw 113 rfl) (wq hw 114 rfl) (by rfl) (wq hw 110 rfl) (wq hw 111 rfl) (wq hw 116 rfl) (wq hw 117 rfl) (wq hw 52 rfl) (wq hw 118 rfl) (Hp.exa (mS mp2)) (c42_length hw hs (mp1 := (mS mp2))) (by decide) pd__I rfl rfl rfl rfl (by decide) (fun v D' h => ?_)
  obtain ⟨rfl, rfl⟩ := h
  show W _ _ _ _ _ _ _ _ _ _ _ _ 13 _ [(vi 3)]
  refine W.istore (ls' := #[rv p1, rv p2, .val .null, rv p3, iv 3]) d17_13 rfl ?_
  refine W.aloadN d17_15 rfl rfl ?_
  refine W.callV (as := []) 0 [] d17_16 (wq hw 124 rfl) (wq hw 125 rfl) (wq hw 127 rfl) (wq hw 127 rfl) (wq hw 126 rfl) (wq hw 71 rfl) (wq hw 128 rfl) (Hp.exa (mS mp2)) (c79_isLatin1 hw hs (mp1 := (mS mp2))) (by decide) pd__Z rfl rfl rfl rfl (by decide) (fun v D' h => ?_)
  obtain ⟨rfl, rfl⟩ := h
  show W _ _ _ _ _ _ _ _ _ _ _ _ 19 _ [(vi 0)]
  refine W.ifY 41 d17_19 (y_eq (by decide)) (by decide) ?_
  refine W.gets d17_41 (wq hw 63 rfl) Via.refl hs.1 ?_
  refine W.ifN d17_44 (n_eq (by have := hs.2.1; have := q0; omega)) ?_
  refine W.aloadN d17_47 rfl rfl ?_
  refine W.getf d17_48 (wq hw 247 rfl) Via.refl (mS mp2) m3 ?_
  refine W.ifY 79 d17_51 (y_eq (by decide)) (by decide) ?_
  refine W.aloadN d17_79 rfl rfl ?_
  refine W.iconst (1) d17_80 (by decide) ?_
  refine W.putf (D' := (p1, true, oString .null (vi 1)) :: F) 0 1 d17_81 (wq hw 21 rfl) Via.refl rfl rfl (Or.inr ⟨(wq hw 17 rfl), rfl, rfl⟩) (wq hw 2 rfl) pfB (nw_byte (by decide)) (ft_byte (by decide)) rfl ?_
  refine W.aloadN d17_84 rfl rfl ?_
  refine W.aloadN d17_85 rfl rfl ?_
  refine W.iconst (0) d17_86 (by decide) ?_
  refine W.iload d17_87 rfl ?_
  refine W.iconst (1) d17_89 (by decide) ?_
  refine W.ishlK (6 : Int32) d17_90 (by decide) ?_
  refine W.callS (as := [(vr p3), (vi 0), (vi 6)]) 1 [(vr p1)] d17_91 (wq hw 129 rfl) (wq hw 130 rfl) (wq hw 131 rfl) (wq hw 132 rfl) (c106_copyOfRange hw hs (hx1 := hx1) (hx2 := hx2) (hx3 := hx3) (mp1 := (mS mp3))) (by decide) pd__BII__B rfl rfl rfl rfl (by decide) (fun v D' h => ?_)
  obtain ⟨a1, rfl, rfl⟩ := h
  show W _ _ _ _ _ _ _ _ _ _ _ _ 94 _ [(vr a1), (vr p1)]
  refine W.putf (D' := (a1, true, ar "[B" .byte [(vi x1.toInt8.toInt32), (vi (x1 >>> ((8 : Int32) &&& 31)).toInt8.toInt32), (vi x2.toInt8.toInt32), (vi (x2 >>> ((8 : Int32) &&& 31)).toInt8.toInt32), (vi x3.toInt8.toInt32), (vi (x3 >>> ((8 : Int32) &&& 31)).toInt8.toInt32)]) :: (p1, true, oString (vr a1) (vi 1)) :: F) 1 0 d17_94 (wq hw 20 rfl) Via.refl rfl rfl (Or.inr ⟨(wq hw 16 rfl), rfl, rfl⟩) (wq hw 2 rfl) pf_B rfl rfl rfl ?_
  exact W.return_ d17_97 rfl (by decide) ⟨a1, rfl, rfl⟩
theorem c104_init {Z a0} (hw : HW a0 Z) (hs : SF Z) {p1 p2 p3 : Addr} {x1 : Int32} (hx1 : 0 ≤ x1.toInt ∧ x1.toInt ≤ 255) {x2 : Int32} (hx2 : 256 ≤ x2.toInt ∧ x2.toInt ≤ 65535) {x3 : Int32} (hx3 : 0 ≤ x3.toInt ∧ x3.toInt ≤ 65535) {w_p2 : Bool} {w_p3 : Bool} {F : List Ent} (mp2 : (p2, w_p2, oStringBuilder (vr p3) (vi 1) (vi 3) (vi 0)) ∈ F) (mp3 : (p3, w_p3, ar "[B" .byte [(vi x1.toInt8.toInt32), (vi (x1 >>> ((8 : Int32) &&& 31)).toInt8.toInt32), (vi x2.toInt8.toInt32), (vi (x2 >>> ((8 : Int32) &&& 31)).toInt8.toInt32), (vi x3.toInt8.toInt32), (vi (x3 >>> ((8 : Int32) &&& 31)).toInt8.toInt32)]) ∈ F) : Con Z EL y31 y31b 2 y31r (rmm 3 1 6 45) [(vr p1), (vr p2)] ((p1, true, oString .null (vi 0)) :: F) (fun v D' => (∃ a1 : Addr, v = none ∧ (a1, true, ar "[B" .byte [(vi x1.toInt8.toInt32), (vi (x1 >>> ((8 : Int32) &&& 31)).toInt8.toInt32), (vi x2.toInt8.toInt32), (vi (x2 >>> ((8 : Int32) &&& 31)).toInt8.toInt32), (vi x3.toInt8.toInt32), (vi (x3 >>> ((8 : Int32) &&& 31)).toInt8.toInt32)]) :: (p1, true, oString (vr a1) (vi 1)) :: F = D')) := by
  refine Con.of (ls := #[rv p1, rv p2]) (by decide +kernel) rfl ?_
  refine W.aloadN d16_0 rfl rfl ?_
  refine W.aloadN d16_1 rfl rfl ?_
  refine W.aconstNull d16_2 ?_
  refine W.callI (as := [(vr p2), .null]) 0 [] d16_3 rfl (wq hw 105 rfl) (wq hw 106 rfl) (wq hw 3 rfl) (wq hw 107 rfl) (c105_init hw hs (hx1 := hx1) (hx2 := hx2) (hx3 := hx3) (mp2 := mp2) (mp3 := mp3)) (by decide) pd_Ljava_lang_AbstractStringBuilder_Ljava_lang_Void__V rfl rfl rfl rfl (by decide) (fun v D' h => ?_)
  obtain ⟨a1, rfl, rfl⟩ := h
  show W _ _ _ _ _ _ _ _ _ _ _ _ 6 _ []
  exact W.return_ d16_6 rfl (by decide) ⟨a1, rfl, rfl⟩
theorem c103_toString {Z a0} (hw : HW a0 Z) (hs : SF Z) {p1 p2 : Addr} {x1 : Int32} (hx1 : 0 ≤ x1.toInt ∧ x1.toInt ≤ 255) {x2 : Int32} (hx2 : 256 ≤ x2.toInt ∧ x2.toInt ≤ 65535) {x3 : Int32} (hx3 : 0 ≤ x3.toInt ∧ x3.toInt ≤ 65535) {w_p1 : Bool} {w_p2 : Bool} {F : List Ent} (mp1 : (p1, w_p1, oStringBuilder (vr p2) (vi 1) (vi 3) (vi 0)) ∈ F) (mp2 : (p2, w_p2, ar "[B" .byte [(vi x1.toInt8.toInt32), (vi (x1 >>> ((8 : Int32) &&& 31)).toInt8.toInt32), (vi x2.toInt8.toInt32), (vi (x2 >>> ((8 : Int32) &&& 31)).toInt8.toInt32), (vi x3.toInt8.toInt32), (vi (x3 >>> ((8 : Int32) &&& 31)).toInt8.toInt32)]) ∈ F) : Con Z EL y32 y32b 1 y32r (rmm 4 2 10 59) [(vr p1)] (F) (fun v D' => (∃ a1 a2 : Addr, v = some (vr a1) ∧ (a2, true, ar "[B" .byte [(vi x1.toInt8.toInt32), (vi (x1 >>> ((8 : Int32) &&& 31)).toInt8.toInt32), (vi x2.toInt8.toInt32), (vi (x2 >>> ((8 : Int32) &&& 31)).toInt8.toInt32), (vi x3.toInt8.toInt32), (vi (x3 >>> ((8 : Int32) &&& 31)).toInt8.toInt32)]) :: (a1, true, oString (vr a2) (vi 1)) :: F = D')) := by
  refine Con.of (ls := #[rv p1]) (by decide +kernel) rfl ?_
  refine W.new d15_0 (wq hw 101 rfl) (wq hw 2 rfl) (wq hw 3 rfl) (laString hw) (by decide) (by decide) (fun a1 => ?_)
  show W _ _ _ _ _ _ _ _ _ _ _ _ 3 _ [(vr a1)]
  refine W.dup d15_3 rfl ?_
  refine W.aloadN d15_4 rfl rfl ?_
  refine W.callI (as := [(vr p1)]) 1 [(vr a1)] d15_5 rfl (wq hw 102 rfl) (wq hw 103 rfl) (wq hw 3 rfl) (wq hw 104 rfl) (c104_init hw hs (hx1 := hx1) (hx2 := hx2) (hx3 := hx3) (mp2 := mp1) (mp3 := mp2)) (by decide) pd_Ljava_lang_StringBuilder__V rfl rfl rfl rfl (by decide) (fun v D' h => ?_)
  obtain ⟨a2, rfl, rfl⟩ := h
  show W _ _ _ _ _ _ _ _ _ _ _ _ 8 _ [(vr a1)]
  exact W.areturn d15_8 rfl rfl rfl (by decide) ⟨a1, a2, rfl, rfl⟩
theorem c90_lowerCase {Z a0} (hw : HW a0 Z) (hs : SF Z) {p1 p2 p3 : Addr} {x2 : Int32} (hx2 : 0 ≤ x2.toInt ∧ x2.toInt ≤ 255) {x3 : Int32} (hx3 : 256 ≤ x3.toInt ∧ x3.toInt ≤ 65535) {x4 : Int32} (hx4 : 0 ≤ x4.toInt ∧ x4.toInt ≤ 65535) {f_p1_0 f_p1_2 f_p1_3 : Value} {w_p1 : Bool} {w_p2 : Bool} {w_p3 : Bool} {ad_p3 : String} {F : List Ent} (mp1 : (p1, w_p1, oJdqlLexer_Token f_p1_0 (vr p2) f_p1_2 f_p1_3) ∈ F) (mp2 : (p2, w_p2, oString (vr p3) (vi 1)) ∈ F) (mp3 : (p3, w_p3, ar ad_p3 .byte [(vi x2.toInt8.toInt32), (vi (x2 >>> ((8 : Int32) &&& 31)).toInt8.toInt32), (vi x3.toInt8.toInt32), (vi (x3 >>> ((8 : Int32) &&& 31)).toInt8.toInt32), (vi x4.toInt8.toInt32), (vi (x4 >>> ((8 : Int32) &&& 31)).toInt8.toInt32)]) ∈ F) : Con Z EL y33 y33b 6 y33r (rmm 8 6 26 115) [(vr p1)] (F) (fun v D' => (∃ a11 a12 : Addr, v = some (vr a11) ∧ (a12, true, ar "[B" .byte [(vi (lc x2).toInt8.toInt32), (vi ((lc x2) >>> ((8 : Int32) &&& 31)).toInt8.toInt32), (vi (lc x3).toInt8.toInt32), (vi ((lc x3) >>> ((8 : Int32) &&& 31)).toInt8.toInt32), (vi (lc x4).toInt8.toInt32), (vi ((lc x4) >>> ((8 : Int32) &&& 31)).toInt8.toInt32)]) :: (a11, true, oString (vr a12) (vi 1)) :: F = D')) := by
  refine Con.of (ls := #[rv p1, uu, uu, uu, uu, uu]) (by decide +kernel) rfl ?_
  refine W.new d6_0 (wq hw 50 rfl) (wq hw 51 rfl) (wq hw 52 rfl) (laStringBuilder hw) (by decide) (by decide) (fun a1 => ?_)
  show W _ _ _ _ _ _ _ _ _ _ _ _ 3 _ [(vr a1)]
  refine W.dup d6_3 rfl ?_
  refine W.aloadN d6_4 rfl rfl ?_
  refine W.getf d6_5 (wq hw 39 rfl) Via.refl (mS mp1) m1 ?_
  refine W.callV (as := []) 2 [(vr a1), (vr a1)] d6_8 (wq hw 53 rfl) (wq hw 54 rfl) (wq hw 56 rfl) (wq hw 56 rfl) (wq hw 55 rfl) (wq hw 3 rfl) (wq hw 57 rfl) (Hp.exa (mS mp2)) (c55_length hw hs (hvs_p2 := rfl) (mp1 := (mS mp2)) (mp2 := (mS mp3))) (by decide) pd__I rfl rfl rfl rfl (by decide) (fun v D' h => ?_)
  obtain ⟨rfl, rfl⟩ := h
  show W _ _ _ _ _ _ _ _ _ _ _ _ 11 _ [(vi 3), (vr a1), (vr a1)]
  refine W.callI (as := [(vi 3)]) 1 [(vr a1)] d6_11 rfl (wq hw 64 rfl) (wq hw 65 rfl) (wq hw 52 rfl) (wq hw 66 rfl) (c21_init hw hs) (by decide) pd_I_V rfl rfl rfl rfl (by decide) (fun v D' h => ?_)
  obtain ⟨a2, rfl, rfl⟩ := h
  show W _ _ _ _ _ _ _ _ _ _ _ _ 14 _ [(vr a1)]
  refine W.astoreN (ls' := #[rv p1, rv a1, uu, uu, uu, uu]) d6_14 rfl rfl ?_
  refine W.aloadN d6_15 rfl rfl ?_
  refine W.getf d6_16 (wq hw 39 rfl) Via.refl (mS (mS mp1)) m1 ?_
  refine W.callV (as := []) 0 [] d6_19 (wq hw 79 rfl) (wq hw 80 rfl) (wq hw 82 rfl) (wq hw 82 rfl) (wq hw 81 rfl) (wq hw 3 rfl) (wq hw 83 rfl) (Hp.exa (mS (mS mp2))) (c57_toCharArray hw hs (hx1 := (by omega)) (hx2 := (by omega)) (hx3 := hx4) (mp1 := (mS (mS mp2))) (mp2 := (mS (mS mp3)))) (by decide) pd___C rfl rfl rfl rfl (by decide) (fun v D' h => ?_)
  obtain ⟨a3, rfl, rfl⟩ := h
  show W _ _ _ _ _ _ _ _ _ _ _ _ 22 _ [(vr a3)]
  refine W.astoreN (ls' := #[rv p1, rv a1, rv a3, uu, uu, uu]) d6_22 rfl rfl ?_
  refine W.aloadN d6_23 rfl rfl ?_
  refine W.alen (3) d6_24 m0 rfl ?_
  refine W.istoreN (ls' := #[rv p1, rv a1, rv a3, iv 3, uu, uu]) d6_25 rfl ?_
  refine W.iconst (0) d6_26 (by decide) ?_
  refine W.istore (ls' := #[rv p1, rv a1, rv a3, iv 3, iv 0, uu]) d6_27 rfl ?_
  refine W.iload d6_29 rfl ?_
  refine W.iloadN d6_31 rfl ?_
  refine W.icmpN d6_32 (n_ge (by decide)) ?_
  refine W.aloadN d6_35 rfl rfl ?_
  refine W.iload d6_36 rfl ?_
  refine W.caload 0 d6_38 m0 ix0 rfl ?_
  refine W.istore (ls' := #[rv p1, rv a1, rv a3, iv 3, iv 0, iv x2]) d6_39 rfl ?_
  refine W.aloadN d6_41 rfl rfl ?_
  have K5 : W Z EL (rmm 8 6 26 115) "com/example/rochester/rochester/JdqlLexer$Token" "lowerCase" prog_12_method_5_code 6 (Option.some (Jvm.ClassFile.FieldType.object "java/lang/String")) (fun v D' => (∃ a11 a12 : Addr, v = some (vr a11) ∧ (a12, true, ar "[B" .byte [(vi (lc x2).toInt8.toInt32), (vi ((lc x2) >>> ((8 : Int32) &&& 31)).toInt8.toInt32), (vi (lc x3).toInt8.toInt32), (vi ((lc x3) >>> ((8 : Int32) &&& 31)).toInt8.toInt32), (vi (lc x4).toInt8.toInt32), (vi ((lc x4) >>> ((8 : Int32) &&& 31)).toInt8.toInt32)]) :: (a11, true, oString (vr a12) (vi 1)) :: F = D')) ((a3, true, ar "[C" .char [(vi x2), (vi x3), (vi x4)]) :: (a2, true, ar "[B" .byte [(vi 0), (vi 0), (vi 0)]) :: (a1, true, oStringBuilder (vr a2) (vi 0) (vi 0) (vi 0)) :: F) 3 10 70 #[rv p1, rv a1, rv a3, iv 3, iv 0, iv x2] [(vi (lc x2)), (vr a1)] := by
   refine W.front 1 (D' := (a2, true, ar "[B" .byte [(vi 0), (vi 0), (vi 0)]) :: (a3, true, ar "[C" .char [(vi x2), (vi x3), (vi x4)]) :: (a1, true, oStringBuilder (vr a2) (vi 0) (vi 0) (vi 0)) :: F) rfl rfl ?_
   refine W.front 2 (D' := (a1, true, oStringBuilder (vr a2) (vi 0) (vi 0) (vi 0)) :: (a2, true, ar "[B" .byte [(vi 0), (vi 0), (vi 0)]) :: (a3, true, ar "[C" .char [(vi x2), (vi x3), (vi x4)]) :: F) rfl rfl ?_
   refine W.callV (as := [(vi (lc x2))]) 0 [] d6_70 (wq hw 153 rfl) (wq hw 154 rfl) (wq hw 156 rfl) (wq hw 156 rfl) (wq hw 155 rfl) (wq hw 52 rfl) (wq hw 157 rfl) (Hp.exa m0) (c27_append hw hs (hx1 := (by have := a_lc x2; omega))) (by decide) pd_C_Ljava_lang_StringBuilder_ rfl rfl rfl rfl (by decide) (fun v D' h => ?_)
   obtain ⟨rfl, rfl⟩ := h
   show W _ _ _ _ _ _ _ _ _ _ _ _ 73 _ [(vr a1)]
   refine W.popv d6_73 rfl ?_
   refine W.iincK (ls' := #[rv p1, rv a1, rv a3, iv 3, iv 1, iv x2]) (1) (1 : Int32) d6_74 (by decide) rfl (by decide) rfl ?_
   refine W.goto 29 d6_77 (by decide) ?_
   refine W.iload d6_29 rfl ?_
   refine W.iloadN d6_31 rfl ?_
   refine W.icmpN d6_32 (n_ge (by decide)) ?_
   refine W.aloadN d6_35 rfl rfl ?_
   refine W.iload d6_36 rfl ?_
   refine W.caload 1 d6_38 m2 ix1 rfl ?_
   refine W.istore (ls' := #[rv p1, rv a1, rv a3, iv 3, iv 1, iv x3]) d6_39 rfl ?_
   refine W.aloadN d6_41 rfl rfl ?_
   have K7 : W Z EL (rmm 8 6 26 115) "com/example/rochester/rochester/JdqlLexer$Token" "lowerCase" prog_12_method_5_code 6 (Option.some (Jvm.ClassFile.FieldType.object "java/lang/String")) (fun v D' => (∃ a11 a12 : Addr, v = some (vr a11) ∧ (a12, true, ar "[B" .byte [(vi (lc x2).toInt8.toInt32), (vi ((lc x2) >>> ((8 : Int32) &&& 31)).toInt8.toInt32), (vi (lc x3).toInt8.toInt32), (vi ((lc x3) >>> ((8 : Int32) &&& 31)).toInt8.toInt32), (vi (lc x4).toInt8.toInt32), (vi ((lc x4) >>> ((8 : Int32) &&& 31)).toInt8.toInt32)]) :: (a11, true, oString (vr a12) (vi 1)) :: F = D')) ((a1, true, oStringBuilder (vr a2) (vi 0) (vi 1) (vi 0)) :: (a2, true, ar "[B" .byte [(vi (lc x2).toInt8.toInt32), (vi 0), (vi 0)]) :: (a3, true, ar "[C" .char [(vi x2), (vi x3), (vi x4)]) :: F) 3 10 70 #[rv p1, rv a1, rv a3, iv 3, iv 1, iv x3] [(vi (lc x3)), (vr a1)] := by
    refine W.callV (as := [(vi (lc x3))]) 0 [] d6_70 (wq hw 153 rfl) (wq hw 154 rfl) (wq hw 156 rfl) (wq hw 156 rfl) (wq hw 155 rfl) (wq hw 52 rfl) (wq hw 157 rfl) (Hp.exa m0) (c91_append hw hs (hx1 := (by have := a_lc x3; omega)) (hx2 := (by have := a_lc x2; omega)) (mp2 := m0)) (by decide) pd_C_Ljava_lang_StringBuilder_ rfl rfl rfl rfl (by decide) (fun v D' h => ?_)
    obtain ⟨a8, rfl, rfl⟩ := h
    show W _ _ _ _ _ _ _ _ _ _ _ _ 73 _ [(vr a1)]
    refine W.popv d6_73 rfl ?_
    refine W.iincK (ls' := #[rv p1, rv a1, rv a3, iv 3, iv 2, iv x3]) (1) (2 : Int32) d6_74 (by decide) rfl (by decide) rfl ?_
    refine W.goto 29 d6_77 (by decide) ?_
    refine W.iload d6_29 rfl ?_
    refine W.iloadN d6_31 rfl ?_
    refine W.icmpN d6_32 (n_ge (by decide)) ?_
    refine W.aloadN d6_35 rfl rfl ?_
    refine W.iload d6_36 rfl ?_
    refine W.caload 2 d6_38 m3 ix2 rfl ?_
    refine W.istore (ls' := #[rv p1, rv a1, rv a3, iv 3, iv 2, iv x4]) d6_39 rfl ?_
    refine W.aloadN d6_41 rfl rfl ?_
    have K10 : W Z EL (rmm 8 6 26 115) "com/example/rochester/rochester/JdqlLexer$Token" "lowerCase" prog_12_method_5_code 6 (Option.some (Jvm.ClassFile.FieldType.object "java/lang/String")) (fun v D' => (∃ a11 a12 : Addr, v = some (vr a11) ∧ (a12, true, ar "[B" .byte [(vi (lc x2).toInt8.toInt32), (vi ((lc x2) >>> ((8 : Int32) &&& 31)).toInt8.toInt32), (vi (lc x3).toInt8.toInt32), (vi ((lc x3) >>> ((8 : Int32) &&& 31)).toInt8.toInt32), (vi (lc x4).toInt8.toInt32), (vi ((lc x4) >>> ((8 : Int32) &&& 31)).toInt8.toInt32)]) :: (a11, true, oString (vr a12) (vi 1)) :: F = D')) ((a8, true, ar "[B" .byte [(vi (lc x2).toInt8.toInt32), (vi ((lc x2) >>> ((8 : Int32) &&& 31)).toInt8.toInt32), (vi (lc x3).toInt8.toInt32), (vi ((lc x3) >>> ((8 : Int32) &&& 31)).toInt8.toInt32), (vi 0), (vi 0)]) :: (a1, true, oStringBuilder (vr a8) (vi 1) (vi 2) (vi 0)) :: (a2, true, ar "[B" .byte [(vi (lc x2).toInt8.toInt32), (vi 0), (vi 0)]) :: (a3, true, ar "[C" .char [(vi x2), (vi x3), (vi x4)]) :: F) 4 16 70 #[rv p1, rv a1, rv a3, iv 3, iv 2, iv x4] [(vi (lc x4)), (vr a1)] := by
     refine W.front 1 (D' := (a1, true, oStringBuilder (vr a8) (vi 1) (vi 2) (vi 0)) :: (a8, true, ar "[B" .byte [(vi (lc x2).toInt8.toInt32), (vi ((lc x2) >>> ((8 : Int32) &&& 31)).toInt8.toInt32), (vi (lc x3).toInt8.toInt32), (vi ((lc x3) >>> ((8 : Int32) &&& 31)).toInt8.toInt32), (vi 0), (vi 0)]) :: (a2, true, ar "[B" .byte [(vi (lc x2).toInt8.toInt32), (vi 0), (vi 0)]) :: (a3, true, ar "[C" .char [(vi x2), (vi x3), (vi x4)]) :: F) rfl rfl ?_
     refine W.callV (as := [(vi (lc x4))]) 0 [] d6_70 (wq hw 153 rfl) (wq hw 154 rfl) (wq hw 156 rfl) (wq hw 156 rfl) (wq hw 155 rfl) (wq hw 52 rfl) (wq hw 157 rfl) (Hp.exa m0) (c100_append hw hs (hx1 := (by have := a_lc x4; omega))) (by decide) pd_C_Ljava_lang_StringBuilder_ rfl rfl rfl rfl (by decide) (fun v D' h => ?_)
     obtain ⟨rfl, rfl⟩ := h
     show W _ _ _ _ _ _ _ _ _ _ _ _ 73 _ [(vr a1)]
     refine W.popv d6_73 rfl ?_
     refine W.iincK (ls' := #[rv p1, rv a1, rv a3, iv 3, iv 3, iv x4]) (1) (3 : Int32) d6_74 (by decide) rfl (by decide) rfl ?_
     refine W.goto 29 d6_77 (by decide) ?_
     refine W.iload d6_29 rfl ?_
     refine W.iloadN d6_31 rfl ?_
     refine W.icmpY 80 d6_32 (y_ge (by decide)) (by decide) ?_
     refine W.aloadN d6_80 rfl rfl ?_
     refine W.callV (as := []) 0 [] d6_81 (wq hw 96 rfl) (wq hw 97 rfl) (wq hw 99 rfl) (wq hw 99 rfl) (wq hw 98 rfl) (wq hw 52 rfl) (wq hw 100 rfl) (Hp.exa m1) (c103_toString hw hs (hx1 := (by have := a_lc x2; omega)) (hx2 := (by have := a_lc x3; omega)) (hx3 := (by have := a_lc x4; omega)) (mp1 := m1) (mp2 := m0)) (by decide) pd__Ljava_lang_String_ rfl rfl rfl rfl (by decide) (fun v D' h => ?_)
     obtain ⟨a11, a12, rfl, rfl⟩ := h
     show W _ _ _ _ _ _ _ _ _ _ _ _ 84 _ [(vr a11)]
     refine W.dropAt 2 (D' := (a12, true, ar "[B" .byte [(vi (lc x2).toInt8.toInt32), (vi ((lc x2) >>> ((8 : Int32) &&& 31)).toInt8.toInt32), (vi (lc x3).toInt8.toInt32), (vi ((lc x3) >>> ((8 : Int32) &&& 31)).toInt8.toInt32), (vi (lc x4).toInt8.toInt32), (vi ((lc x4) >>> ((8 : Int32) &&& 31)).toInt8.toInt32)]) :: (a11, true, oString (vr a12) (vi 1)) :: (a1, true, oStringBuilder (vr a8) (vi 1) (vi 3) (vi 0)) :: (a2, true, ar "[B" .byte [(vi (lc x2).toInt8.toInt32), (vi 0), (vi 0)]) :: (a3, true, ar "[C" .char [(vi x2), (vi x3), (vi x4)]) :: F) rfl ?_
     refine W.dropAt 2 (D' := (a12, true, ar "[B" .byte [(vi (lc x2).toInt8.toInt32), (vi ((lc x2) >>> ((8 : Int32) &&& 31)).toInt8.toInt32), (vi (lc x3).toInt8.toInt32), (vi ((lc x3) >>> ((8 : Int32) &&& 31)).toInt8.toInt32), (vi (lc x4).toInt8.toInt32), (vi ((lc x4) >>> ((8 : Int32) &&& 31)).toInt8.toInt32)]) :: (a11, true, oString (vr a12) (vi 1)) :: (a2, true, ar "[B" .byte [(vi (lc x2).toInt8.toInt32), (vi 0), (vi 0)]) :: (a3, true, ar "[C" .char [(vi x2), (vi x3), (vi x4)]) :: F) rfl ?_
     refine W.dropAt 2 (D' := (a12, true, ar "[B" .byte [(vi (lc x2).toInt8.toInt32), (vi ((lc x2) >>> ((8 : Int32) &&& 31)).toInt8.toInt32), (vi (lc x3).toInt8.toInt32), (vi ((lc x3) >>> ((8 : Int32) &&& 31)).toInt8.toInt32), (vi (lc x4).toInt8.toInt32), (vi ((lc x4) >>> ((8 : Int32) &&& 31)).toInt8.toInt32)]) :: (a11, true, oString (vr a12) (vi 1)) :: (a3, true, ar "[C" .char [(vi x2), (vi x3), (vi x4)]) :: F) rfl ?_
     refine W.dropAt 2 (D' := (a12, true, ar "[B" .byte [(vi (lc x2).toInt8.toInt32), (vi ((lc x2) >>> ((8 : Int32) &&& 31)).toInt8.toInt32), (vi (lc x3).toInt8.toInt32), (vi ((lc x3) >>> ((8 : Int32) &&& 31)).toInt8.toInt32), (vi (lc x4).toInt8.toInt32), (vi ((lc x4) >>> ((8 : Int32) &&& 31)).toInt8.toInt32)]) :: (a11, true, oString (vr a12) (vi 1)) :: F) rfl ?_
     exact W.areturn d6_84 rfl rfl rfl (by decide) ⟨a11, a12, rfl, rfl⟩
    refine W.iload d6_42 rfl ?_
    refine W.bipush (65) d6_44 (by decide) ?_
    refine W.icmp 68 d6_46 (by decide) (fun h1 => ?_) (fun h1 => ?_)
    ·
     have ih1 := t_lt h1
     refine W.iload d6_68 rfl ?_
     refine W.top (y := (lc x4)) (lc_of (by have := q65; omega)) ?_
     exact W.mono (by decide) (by decide) (K10  )
    ·
     have ih1 := f_lt h1
     refine W.iload d6_49 rfl ?_
     refine W.bipush (90) d6_51 (by decide) ?_
     refine W.icmp 68 d6_53 (by decide) (fun h2 => ?_) (fun h2 => ?_)
     ·
      have ih2 := t_gt h2
      refine W.iload d6_68 rfl ?_
      refine W.top (y := (lc x4)) (lc_of (by have := q65; have := q90; omega)) ?_
      exact W.mono (by decide) (by decide) (K10  )
     ·
      have ih2 := f_gt h2
      refine W.iload d6_56 rfl ?_
      refine W.bipush (65) d6_58 (by decide) ?_
      refine W.isub d6_60 ?_
      refine W.bipush (97) d6_61 (by decide) ?_
      refine W.iadd d6_63 ?_
      refine W.i2cK ((x4 - (65 : Int32)) + (97 : Int32)) d6_64 (z_i2c (by have := q65; have := a_sub x4 (65 : Int32); have := q97; have := a_add (x4 - (65 : Int32)) (97 : Int32); have := q90; omega)) ?_
      refine W.goto 70 d6_65 (by decide) ?_
      refine W.top (y := (lc x4)) (lc_of (by have := q65; have := a_sub x4 (65 : Int32); have := q97; have := a_add (x4 - (65 : Int32)) (97 : Int32); have := q90; omega)) ?_
      exact W.mono (by decide) (by decide) (K10  )
   refine W.iload d6_42 rfl ?_
   refine W.bipush (65) d6_44 (by decide) ?_
   refine W.icmpN d6_46 (n_lt (by have := q65; omega)) ?_
   refine W.iload d6_49 rfl ?_
   refine W.bipush (90) d6_51 (by decide) ?_
   refine W.icmpY 68 d6_53 (y_gt (by have := q90; omega)) (by decide) ?_
   refine W.iload d6_68 rfl ?_
   refine W.top (y := (lc x3)) (lc_of (by omega)) ?_
   exact W.mono (by decide) (by decide) (K7  )
  refine W.iload d6_42 rfl ?_
  refine W.bipush (65) d6_44 (by decide) ?_
  refine W.icmp 68 d6_46 (by decide) (fun h3 => ?_) (fun h3 => ?_)
  ·
   have ih3 := t_lt h3
   refine W.iload d6_68 rfl ?_
   refine W.top (y := (lc x2)) (lc_of (by have := q65; omega)) ?_
   exact W.mono (by decide) (by decide) (K5  )
  ·
   have ih3 := f_lt h3
   refine W.iload d6_49 rfl ?_
   refine W.bipush (90) d6_51 (by decide) ?_
   refine W.icmp 68 d6_53 (by decide) (fun h4 => ?_) (fun h4 => ?_)
   ·
    have ih4 := t_gt h4
    refine W.iload d6_68 rfl ?_
    refine W.top (y := (lc x2)) (lc_of (by have := q65; have := q90; omega)) ?_
    exact W.mono (by decide) (by decide) (K5  )
   ·
    have ih4 := f_gt h4
    refine W.iload d6_56 rfl ?_
    refine W.bipush (65) d6_58 (by decide) ?_
    refine W.isub d6_60 ?_
    refine W.bipush (97) d6_61 (by decide) ?_
    refine W.iadd d6_63 ?_
    refine W.i2cK ((x2 - (65 : Int32)) + (97 : Int32)) d6_64 (z_i2c (by have := q65; have := a_sub x2 (65 : Int32); have := q97; have := a_add (x2 - (65 : Int32)) (97 : Int32); have := q90; omega)) ?_
    refine W.goto 70 d6_65 (by decide) ?_
    refine W.top (y := (lc x2)) (lc_of (by have := q65; have := a_sub x2 (65 : Int32); have := q97; have := a_add (x2 - (65 : Int32)) (97 : Int32); have := q90; omega)) ?_
    exact W.mono (by decide) (by decide) (K5  )
theorem c107_expected {Z a0} (hw : HW a0 Z) (hs : SF Z) {x1 : Int32} (hx1 : 0 ≤ x1.toInt ∧ x1.toInt ≤ 65535) {F : List Ent} : Con Z EL y38 y38b 2 y38r (rmm 0 0 0 0) [(vi x1)] (F) (fun v D' => (Cd .lt (x1 - (65 : Int32)) (0 : Int32) ∧ v = some (vi x1) ∧ F = D') ∨ (¬ Cd .lt (x1 - (65 : Int32)) (0 : Int32) ∧ Cd .ge (x1 - (65 : Int32)) (26 : Int32) ∧ v = some (vi x1) ∧ F = D') ∨ (¬ Cd .lt (x1 - (65 : Int32)) (0 : Int32) ∧ ¬ Cd .ge (x1 - (65 : Int32)) (26 : Int32) ∧ v = some (vi ((97 : Int32) + (x1 - (65 : Int32)))) ∧ F = D')) := by
  refine Con.of (ls := #[iv x1, uu]) (by decide +kernel) rfl ?_
  refine W.iloadN d34_0 rfl ?_
  refine W.bipush (65) d34_1 (by decide) ?_
  refine W.isub d34_3 ?_
  refine W.istoreN (ls' := #[iv x1, iv (x1 - (65 : Int32))]) d34_4 rfl ?_
  refine W.iloadN d34_5 rfl ?_
  refine W.if 21 d34_6 (by decide) (fun h1 => ?_) (fun h1 => ?_)
  ·
   have ih1 := t_lt h1
   refine W.iloadN d34_21 rfl ?_
   exact W.ireturn d34_22 rfl (Or.inr (Or.inr (Or.inr (Or.inl rfl)))) (nw_char hx1) (by decide) (Or.inl ⟨h1, rfl, rfl⟩)
  ·
   have ih1 := f_lt h1
   refine W.iloadN d34_9 rfl ?_
   refine W.bipush (26) d34_10 (by decide) ?_
   refine W.icmp 21 d34_12 (by decide) (fun h2 => ?_) (fun h2 => ?_)
   ·
    have ih2 := t_ge h2
    refine W.iloadN d34_21 rfl ?_
    exact W.ireturn d34_22 rfl (Or.inr (Or.inr (Or.inr (Or.inl rfl)))) (nw_char hx1) (by decide) (Or.inr (Or.inl ⟨h1, h2, rfl, rfl⟩))
   ·
    have ih2 := f_ge h2
    refine W.bipush (97) d34_15 (by decide) ?_
    refine W.iloadN d34_17 rfl ?_
    refine W.iadd d34_18 ?_
    refine W.i2cK ((97 : Int32) + (x1 - (65 : Int32))) d34_19 (z_i2c (by have := q97; have := q65; have := a_sub x1 (65 : Int32); have := a_add (97 : Int32) (x1 - (65 : Int32)); have := q0; have := q26; omega)) ?_
    exact W.ireturn d34_20 rfl (Or.inr (Or.inr (Or.inr (Or.inl rfl)))) (nw_char (by have := q97; have := q65; have := a_sub x1 (65 : Int32); have := a_add (97 : Int32) (x1 - (65 : Int32)); have := q0; have := q26; omega)) (by decide) (Or.inr (Or.inr ⟨h1, h2, rfl, rfl⟩))
theorem c107_expectedm {Z a0} (hw : HW a0 Z) (hs : SF Z) {x1 : Int32} (hx1 : 0 ≤ x1.toInt ∧ x1.toInt ≤ 65535) {F : List Ent} : Con Z EL y38 y38b 2 y38r (rmm 0 0 0 0) [(vi x1)] (F) (fun v D' => v = some (vi (lc x1)) ∧ F = D') := Con.mono (c107_expected hw hs (x1 := x1) (hx1 := hx1)) (fun v D' h => by
  rcases h with ⟨h0, rfl, rfl⟩ | ⟨h0, h1, rfl, rfl⟩ | ⟨h0, h1, rfl, rfl⟩
  · exact ⟨congrArg (fun z => some (Value.int z)) (lc_of (by have := t_lt h0; have := q65; have := a_sub x1 (65 : Int32); have := q0; omega)), rfl⟩
  · exact ⟨congrArg (fun z => some (Value.int z)) (lc_of (by have := f_lt h0; have := t_ge h1; have := q65; have := a_sub x1 (65 : Int32); have := q0; have := q26; omega)), rfl⟩
  · exact ⟨congrArg (fun z => some (Value.int z)) (lc_of (by have := f_lt h0; have := f_ge h1; have := q97; have := q65; have := a_sub x1 (65 : Int32); have := a_add (97 : Int32) (x1 - (65 : Int32)); have := q0; have := q26; omega)), rfl⟩)
theorem c116_checkFromIndexSize {Z a0} (hw : HW a0 Z) (hs : SF Z) {F : List Ent} : Con Z EL y40 y40b 4 y40r (rmm 0 0 0 0) [(vi 0), (vi 0), (vi 3), (sfv Z)] (F) (fun v D' => (v = some (vi 0) ∧ F = D')) := by
  refine Con.of (ls := #[iv 0, iv 0, iv 3, .val (sfv Z)]) (by decide +kernel) (hent_of (ld1 rfl (ld1 rfl (ld1 rfl (ld1 (XT.cat1 hs.2.2.1) ld0)))) rfl) ?_
  refine W.iloadN d45_0 rfl ?_
  refine W.iloadN d45_1 rfl ?_
  refine W.iorK (3 : Int32) d45_2 (by decide) ?_
  refine W.iloadN d45_3 rfl ?_
  refine W.iorK (3 : Int32) d45_4 (by decide) ?_
  refine W.ifN d45_5 (n_lt (by decide)) ?_
  refine W.iloadN d45_8 rfl ?_
  refine W.iloadN d45_9 rfl ?_
  refine W.iloadN d45_10 rfl ?_
  refine W.isubK (3 : Int32) d45_11 (by decide) ?_
  refine W.icmpY 23 d45_12 (y_le (by decide)) (by decide) ?_
  refine W.iloadN d45_23 rfl ?_
  exact W.ireturn d45_24 rfl (Or.inl rfl) rfl (by decide) ⟨rfl, rfl⟩
theorem c115_checkBoundsOffCount {Z a0} (hw : HW a0 Z) (hs : SF Z) {F : List Ent} : Con Z EL y41 y41b 3 y41r (rmm 1 0 0 15) [(vi 0), (vi 0), (vi 3)] (F) (fun v D' => (v = some (vi 0) ∧ F = D')) := by
  refine Con.of (ls := #[iv 0, iv 0, iv 3]) (by decide +kernel) rfl ?_
  refine W.iloadN d44_0 rfl ?_
  refine W.iloadN d44_1 rfl ?_
  refine W.iloadN d44_2 rfl ?_
  refine W.gets d44_3 (wq hw 182 rfl) Via.refl hs.2.2.2.1 ?_
  refine W.callS (as := [(vi 0), (vi 0), (vi 3), (sfv Z)]) 0 [] d44_6 (wq hw 225 rfl) (wq hw 226 rfl) (wq hw 183 rfl) (wq hw 227 rfl) (c116_checkFromIndexSize hw hs) (by decide) pd_IIILjava_util_function_BiFunction__I rfl rfl rfl rfl (by decide) (fun v D' h => ?_)
  obtain ⟨rfl, rfl⟩ := h
  show W _ _ _ _ _ _ _ _ _ _ _ _ 9 _ [(vi 0)]
  exact W.ireturn d44_9 rfl (Or.inl rfl) rfl (by decide) ⟨rfl, rfl⟩
theorem c114_checkBoundsOffCount {Z a0} (hw : HW a0 Z) (hs : SF Z) {p1 : Addr} {vs_p1 : List Value} (hvs_p1 : vs_p1.length = 6) {w_p1 : Bool} {ad_p1 : String} {F : List Ent} (mp1 : (p1, w_p1, ar ad_p1 .byte vs_p1) ∈ F) : Con Z EL y42 y42b 3 y42r (rmm 2 0 0 29) [(vi 0), (vi 0), (vr p1)] (F) (fun v D' => (v = none ∧ F = D')) := by
  refine Con.of (ls := #[iv 0, iv 0, rv p1]) (by decide +kernel) rfl ?_
  refine W.iloadN d42_0 rfl ?_
  refine W.iloadN d42_1 rfl ?_
  refine W.aloadN d42_2 rfl rfl ?_
  refine W.callS (as := [(vr p1)]) 2 [(vi 0), (vi 0)] d42_3 (wq hw 219 rfl) (wq hw 220 rfl) (wq hw 145 rfl) (wq hw 221 rfl) (c62_length hw hs (hvs_p1 := hvs_p1) (mp1 := mp1)) (by decide) pd__B_I rfl rfl rfl rfl (by decide) (fun v D' h => ?_)
  obtain ⟨rfl, rfl⟩ := h
  show W _ _ _ _ _ _ _ _ _ _ _ _ 6 _ [(vi 3), (vi 0), (vi 0)]
  refine W.callS (as := [(vi 0), (vi 0), (vi 3)]) 0 [] d42_6 (wq hw 222 rfl) (wq hw 223 rfl) (wq hw 3 rfl) (wq hw 224 rfl) (c115_checkBoundsOffCount hw hs) (by decide) pd_III_I rfl rfl rfl rfl (by decide) (fun v D' h => ?_)
  obtain ⟨rfl, rfl⟩ := h
  show W _ _ _ _ _ _ _ _ _ _ _ _ 9 _ [(vi 0)]
  refine W.popv d42_9 rfl ?_
  exact W.return_ d42_10 rfl (by decide) ⟨rfl, rfl⟩
theorem c113_inflate {Z a0} (hw : HW a0 Z) (hs : SF Z) {p1 p2 : Addr} {vs_p2 : List Value} (hvs_p2 : vs_p2.length = 6) {w_p2 : Bool} {ad_p2 : String} {F : List Ent} (mp2 : (p2, w_p2, ar ad_p2 .byte vs_p2) ∈ F) : Con Z EL y45 y45b 6 y45r (rmm 3 0 0 43) [(vr p1), (vi 0), (vr p2), (vi 0), (vi 0)] (F) (fun v D' => (v = none ∧ F = D')) := by
  refine Con.of (ls := #[rv p1, iv 0, rv p2, iv 0, iv 0, uu]) (by decide +kernel) rfl ?_
  refine W.iloadN d48_0 rfl ?_
  refine W.iload d48_1 rfl ?_
  refine W.aloadN d48_3 rfl rfl ?_
  refine W.callS (as := [(vi 0), (vi 0), (vr p2)]) 0 [] d48_4 (wq hw 216 rfl) (wq hw 217 rfl) (wq hw 145 rfl) (wq hw 218 rfl) (c114_checkBoundsOffCount hw hs (hvs_p1 := hvs_p2) (mp1 := mp2)) (by decide) pd_II_B_V rfl rfl rfl rfl (by decide) (fun v D' h => ?_)
  obtain ⟨rfl, rfl⟩ := h
  show W _ _ _ _ _ _ _ _ _ _ _ _ 7 _ []
  refine W.iconst (0) d48_7 (by decide) ?_
  refine W.istore (ls' := #[rv p1, iv 0, rv p2, iv 0, iv 0, iv 0]) d48_8 rfl ?_
  refine W.iload d48_10 rfl ?_
  refine W.iload d48_12 rfl ?_
  refine W.icmpY 41 d48_14 (y_ge (by decide)) (by decide) ?_
  exact W.return_ d48_41 rfl (by decide) ⟨rfl, rfl⟩
theorem c112_inflate {Z a0} (hw : HW a0 Z) (hs : SF Z) {p1 p2 : Addr} {vs_p2 : List Value} (hvs_p2 : vs_p2.length = 6) {w_p2 : Bool} {ad_p2 : String} {F : List Ent} (mp2 : (p2, w_p2, ar ad_p2 .byte vs_p2) ∈ F) : Con Z EL y46 y46b 5 y46r (rmm 4 0 0 60) [(vr p1), (vi 0), (vr p2), (vi 0), (vi 0)] (F) (fun v D' => (v = none ∧ F = D')) := by
  refine Con.of (ls := #[rv p1, iv 0, rv p2, iv 0, iv 0]) (by decide +kernel) rfl ?_
  refine W.aloadN d47_0 rfl rfl ?_
  refine W.iloadN d47_1 rfl ?_
  refine W.aloadN d47_2 rfl rfl ?_
  refine W.iloadN d47_3 rfl ?_
  refine W.iload d47_4 rfl ?_
  refine W.callS (as := [(vr p1), (vi 0), (vr p2), (vi 0), (vi 0)]) 0 [] d47_6 (wq hw 237 rfl) (wq hw 238 rfl) (wq hw 145 rfl) (wq hw 239 rfl) (c113_inflate hw hs (hvs_p2 := hvs_p2) (mp2 := mp2)) (by decide) pd__BI_BII_V rfl rfl rfl rfl (by decide) (fun v D' h => ?_)
  obtain ⟨rfl, rfl⟩ := h
  show W _ _ _ _ _ _ _ _ _ _ _ _ 9 _ []
  exact W.return_ d47_9 rfl (by decide) ⟨rfl, rfl⟩
theorem c111_inflate {Z a0} (hw : HW a0 Z) (hs : SF Z) {p1 p2 : Addr} {f_p1_3 : Value} {vs_p2 : List Value} (hvs_p2 : vs_p2.length = 3) {w_p2 : Bool} {ad_p2 : String} {F : List Ent} (mp2 : (p2, w_p2, ar ad_p2 .byte vs_p2) ∈ F) : Con Z EL y47 y47b 2 y47r (rmm 5 1 6 76) [(vr p1)] ((p1, true, oStringBuilder (vr p2) (vi 0) (vi 0) f_p1_3) :: F) (fun v D' => (∃ a1 : Addr, v = none ∧ (a1, true, ar "[B" .byte [(vi 0), (vi 0), (vi 0), (vi 0), (vi 0), (vi 0)]) :: (p1, true, oStringBuilder (vr a1) (vi 1) (vi 0) f_p1_3) :: F = D')) := by
  refine Con.of (ls := #[rv p1, uu]) (by decide +kernel) rfl ?_
  refine W.aloadN d46_0 rfl rfl ?_
  refine W.callV (as := []) 0 [] d46_1 (wq hw 167 rfl) (wq hw 125 rfl) (wq hw 127 rfl) (wq hw 127 rfl) (wq hw 126 rfl) (wq hw 71 rfl) (wq hw 128 rfl) (Hp.exa m0) (c30_isLatin1 hw hs (mp1 := m0)) (by decide) pd__Z rfl rfl rfl rfl (by decide) (fun v D' h => ?_)
  obtain ⟨rfl, rfl⟩ := h
  show W _ _ _ _ _ _ _ _ _ _ _ _ 4 _ [(vi 1)]
  refine W.ifY 8 d46_4 (y_ne (by decide)) (by decide) ?_
  refine W.aloadN d46_8 rfl rfl ?_
  refine W.getf d46_9 (wq hw 75 rfl) Via.refl m0 m0 ?_
  refine W.alen (3) d46_12 (mS mp2) (by rw [hvs_p2]; rfl) ?_
  refine W.callS (as := [(vi 3)]) 0 [] d46_13 (wq hw 233 rfl) (wq hw 195 rfl) (wq hw 145 rfl) (wq hw 196 rfl) (c6_newBytesFor hw hs) (by decide) pd_I__B rfl rfl rfl rfl (by decide) (fun v D' h => ?_)
  obtain ⟨a1, rfl, rfl⟩ := h
  show W _ _ _ _ _ _ _ _ _ _ _ _ 16 _ [(vr a1)]
  refine W.astoreN (ls' := #[rv p1, rv a1]) d46_16 rfl rfl ?_
  refine W.aloadN d46_17 rfl rfl ?_
  refine W.getf d46_18 (wq hw 75 rfl) Via.refl m1 m0 ?_
  refine W.iconst (0) d46_21 (by decide) ?_
  refine W.aloadN d46_22 rfl rfl ?_
  refine W.iconst (0) d46_23 (by decide) ?_
  refine W.aloadN d46_24 rfl rfl ?_
  refine W.getf d46_25 (wq hw 122 rfl) Via.refl m1 m2 ?_
  refine W.callS (as := [(vr p2), (vi 0), (vr a1), (vi 0), (vi 0)]) 0 [] d46_28 (wq hw 234 rfl) (wq hw 235 rfl) (wq hw 91 rfl) (wq hw 236 rfl) (c112_inflate hw hs (hvs_p2 := rfl) (mp2 := m0)) (by decide) pd__BI_BII_V rfl rfl rfl rfl (by decide) (fun v D' h => ?_)
  obtain ⟨rfl, rfl⟩ := h
  show W _ _ _ _ _ _ _ _ _ _ _ _ 31 _ []
  refine W.aloadN d46_31 rfl rfl ?_
  refine W.aloadN d46_32 rfl rfl ?_
  refine W.putf (D' := (a1, true, ar "[B" .byte [(vi 0), (vi 0), (vi 0), (vi 0), (vi 0), (vi 0)]) :: (p1, true, oStringBuilder (vr a1) (vi 0) (vi 0) f_p1_3) :: F) 1 0 d46_33 (wq hw 75 rfl) Via.refl rfl rfl (Or.inl (wq hw 76 rfl)) (wq hw 51 rfl) pf_B rfl rfl rfl ?_
  refine W.aloadN d46_36 rfl rfl ?_
  refine W.iconst (1) d46_37 (by decide) ?_
  refine W.putf (D' := (a1, true, ar "[B" .byte [(vi 0), (vi 0), (vi 0), (vi 0), (vi 0), (vi 0)]) :: (p1, true, oStringBuilder (vr a1) (vi 1) (vi 0) f_p1_3) :: F) 1 1 d46_38 (wq hw 77 rfl) Via.refl rfl rfl (Or.inl (wq hw 78 rfl)) (wq hw 51 rfl) pfB (nw_byte (by decide)) (ft_byte (by decide)) rfl ?_
  exact W.return_ d46_41 rfl (by decide) ⟨a1, rfl, rfl⟩
theorem c117_putCharSB {Z a0} (hw : HW a0 Z) (hs : SF Z) {p1 : Addr} {x1 : Int32} (hx1 : 0 ≤ x1.toInt ∧ x1.toInt ≤ 65535) {e_p1_2 e_p1_3 e_p1_4 e_p1_5 : Value} {ad_p1 : String} {F : List Ent} : Con Z EL y49 y49b 3 y49r (rmm 3 0 0 40) [(vr p1), (vi 0), (vi x1)] ((p1, true, ar ad_p1 .byte [(vi 0), (vi 0), e_p1_2, e_p1_3, e_p1_4, e_p1_5]) :: F) (fun v D' => (v = none ∧ (p1, true, ar ad_p1 .byte [(vi x1.toInt8.toInt32), (vi (x1 >>> ((8 : Int32) &&& 31)).toInt8.toInt32), e_p1_2, e_p1_3, e_p1_4, e_p1_5]) :: F = D')) := by
  refine Con.of (ls := #[rv p1, iv 0, iv x1]) (by decide +kernel) rfl ?_
  refine W.iloadN d49_0 rfl ?_
  refine W.aloadN d49_1 rfl rfl ?_
  refine W.callS (as := [(vi 0), (vr p1)]) 0 [] d49_2 (wq hw 243 rfl) (wq hw 244 rfl) (wq hw 145 rfl) (wq hw 245 rfl) (c83_checkIndex hw hs (hvs_p1 := rfl) (mp1 := m0)) (by decide) pd_I_B_V rfl rfl rfl rfl (by decide) (fun v D' h => ?_)
  obtain ⟨rfl, rfl⟩ := h
  show W _ _ _ _ _ _ _ _ _ _ _ _ 5 _ []
  refine W.aloadN d49_5 rfl rfl ?_
  refine W.iloadN d49_6 rfl ?_
  refine W.iloadN d49_7 rfl ?_
  refine W.callS (as := [(vr p1), (vi 0), (vi x1)]) 0 [] d49_8 (wq hw 201 rfl) (wq hw 202 rfl) (wq hw 145 rfl) (wq hw 203 rfl) (c8_putChar hw hs (hx1 := hx1)) (by decide) pd__BII_V rfl rfl rfl rfl (by decide) (fun v D' h => ?_)
  obtain ⟨rfl, rfl⟩ := h
  show W _ _ _ _ _ _ _ _ _ _ _ _ 11 _ []
  exact W.return_ d49_11 rfl (by decide) ⟨rfl, rfl⟩
theorem c110_append {Z a0} (hw : HW a0 Z) (hs : SF Z) {p1 p2 : Addr} {x1 : Int32} (hx1 : 256 ≤ x1.toInt ∧ x1.toInt ≤ 65535) {f_p1_3 : Value} {vs_p2 : List Value} (hvs_p2 : vs_p2.length = 3) {w_p2 : Bool} {ad_p2 : String} {F : List Ent} (mp2 : (p2, w_p2, ar ad_p2 .byte vs_p2) ∈ F) : Con Z EL y24 y24b 2 y24r (rmm 6 1 6 89) [(vr p1), (vi x1)] ((p1, true, oStringBuilder (vr p2) (vi 0) (vi 0) f_p1_3) :: F) (fun v D' => (∃ a1 : Addr, v = some (vr p1) ∧ (a1, true, ar "[B" .byte [(vi x1.toInt8.toInt32), (vi (x1 >>> ((8 : Int32) &&& 31)).toInt8.toInt32), (vi 0), (vi 0), (vi 0), (vi 0)]) :: (p1, true, oStringBuilder (vr a1) (vi 1) (vi 1) f_p1_3) :: F = D')) := by
  refine Con.of (ls := #[rv p1, iv x1]) (by decide +kernel) rfl ?_
  refine W.aloadN d27_0 rfl rfl ?_
  refine W.aloadN d27_1 rfl rfl ?_
  refine W.getf d27_2 (wq hw 122 rfl) Via.refl m0 m2 ?_
  refine W.iconst (1) d27_5 (by decide) ?_
  refine W.iaddK (1 : Int32) d27_6 (by decide) ?_
  refine W.callP (as := [(vi 1)]) 0 [] d27_7 (wq hw 162 rfl) (wq hw 163 rfl) (wq hw 165 rfl) (wq hw 164 rfl) (wq hw 71 rfl) (wq hw 166 rfl) (Hp.exa m0) (c29_ensureCapacityInternal hw hs (hvs_p2 := hvs_p2) (mp1 := m0) (mp2 := (mS mp2))) (by decide) pd_I_V rfl rfl rfl rfl (by decide) (fun v D' h => ?_)
  obtain ⟨rfl, rfl⟩ := h
  show W _ _ _ _ _ _ _ _ _ _ _ _ 10 _ []
  refine W.aloadN d27_10 rfl rfl ?_
  refine W.callV (as := []) 0 [] d27_11 (wq hw 167 rfl) (wq hw 125 rfl) (wq hw 127 rfl) (wq hw 127 rfl) (wq hw 126 rfl) (wq hw 71 rfl) (wq hw 128 rfl) (Hp.exa m0) (c30_isLatin1 hw hs (mp1 := m0)) (by decide) pd__Z rfl rfl rfl rfl (by decide) (fun v D' h => ?_)
  obtain ⟨rfl, rfl⟩ := h
  show W _ _ _ _ _ _ _ _ _ _ _ _ 14 _ [(vi 1)]
  refine W.ifN d27_14 (n_eq (by decide)) ?_
  refine W.iloadN d27_17 rfl ?_
  refine W.callS (as := [(vi x1)]) 0 [] d27_18 (wq hw 168 rfl) (wq hw 169 rfl) (wq hw 91 rfl) (wq hw 170 rfl) (c67_canEncode hw hs (hx1 := hx1)) (by decide) pd_C_Z rfl rfl rfl rfl (by decide) (fun v D' h => ?_)
  obtain ⟨rfl, rfl⟩ := h
  show W _ _ _ _ _ _ _ _ _ _ _ _ 21 _ [(vi 0)]
  refine W.ifY 45 d27_21 (y_eq (by decide)) (by decide) ?_
  refine W.aloadN d27_45 rfl rfl ?_
  refine W.callV (as := []) 0 [] d27_46 (wq hw 167 rfl) (wq hw 125 rfl) (wq hw 127 rfl) (wq hw 127 rfl) (wq hw 126 rfl) (wq hw 71 rfl) (wq hw 128 rfl) (Hp.exa m0) (c30_isLatin1 hw hs (mp1 := m0)) (by decide) pd__Z rfl rfl rfl rfl (by decide) (fun v D' h => ?_)
  obtain ⟨rfl, rfl⟩ := h
  show W _ _ _ _ _ _ _ _ _ _ _ _ 49 _ [(vi 1)]
  refine W.ifN d27_49 (n_eq (by decide)) ?_
  refine W.aloadN d27_52 rfl rfl ?_
  refine W.callP (as := []) 0 [] d27_53 (wq hw 228 rfl) (wq hw 229 rfl) (wq hw 231 rfl) (wq hw 230 rfl) (wq hw 71 rfl) (wq hw 232 rfl) (Hp.exa m0) (c111_inflate hw hs (hvs_p2 := hvs_p2) (mp2 := mp2)) (by decide) pd__V rfl rfl rfl rfl (by decide) (fun v D' h => ?_)
  obtain ⟨a1, rfl, rfl⟩ := h
  show W _ _ _ _ _ _ _ _ _ _ _ _ 56 _ []
  refine W.aloadN d27_56 rfl rfl ?_
  refine W.getf d27_57 (wq hw 75 rfl) Via.refl m1 m0 ?_
  refine W.aloadN d27_60 rfl rfl ?_
  refine W.dup d27_61 rfl ?_
  refine W.getf d27_62 (wq hw 122 rfl) Via.refl m1 m2 ?_
  refine W.dupX1 d27_65 rfl rfl ?_
  refine W.iconst (1) d27_66 (by decide) ?_
  refine W.iaddK (1 : Int32) d27_67 (by decide) ?_
  refine W.putf (D' := (a1, true, ar "[B" .byte [(vi 0), (vi 0), (vi 0), (vi 0), (vi 0), (vi 0)]) :: (p1, true, oStringBuilder (vr a1) (vi 1) (vi 1) f_p1_3) :: F) 1 2 d27_68 (wq hw 122 rfl) Via.refl rfl rfl (Or.inl (wq hw 123 rfl)) (wq hw 51 rfl) pfI rfl rfl rfl ?_
  refine W.iloadN d27_71 rfl ?_
  refine W.callS (as := [(vr a1), (vi 0), (vi x1)]) 0 [] d27_72 (wq hw 240 rfl) (wq hw 241 rfl) (wq hw 145 rfl) (wq hw 242 rfl) (c117_putCharSB hw hs (hx1 := (by omega))) (by decide) pd__BII_V rfl rfl rfl rfl (by decide) (fun v D' h => ?_)
  obtain ⟨rfl, rfl⟩ := h
  show W _ _ _ _ _ _ _ _ _ _ _ _ 75 _ []
  refine W.aloadN d27_75 rfl rfl ?_
  exact W.areturn d27_76 rfl rfl rfl (by decide) ⟨a1, rfl, rfl⟩
theorem c109_append {Z a0} (hw : HW a0 Z) (hs : SF Z) {p1 p2 : Addr} {x1 : Int32} (hx1 : 256 ≤ x1.toInt ∧ x1.toInt ≤ 65535) {f_p1_3 : Value} {vs_p2 : List Value} (hvs_p2 : vs_p2.length = 3) {w_p2 : Bool} {ad_p2 : String} {F : List Ent} (mp2 : (p2, w_p2, ar ad_p2 .byte vs_p2) ∈ F) : Con Z EL y25 y25b 2 y25r (rmm 7 1 6 102) [(vr p1), (vi x1)] ((p1, true, oStringBuilder (vr p2) (vi 0) (vi 0) f_p1_3) :: F) (fun v D' => (∃ a1 : Addr, v = some (vr p1) ∧ (a1, true, ar "[B" .byte [(vi x1.toInt8.toInt32), (vi (x1 >>> ((8 : Int32) &&& 31)).toInt8.toInt32), (vi 0), (vi 0), (vi 0), (vi 0)]) :: (p1, true, oStringBuilder (vr a1) (vi 1) (vi 1) f_p1_3) :: F = D')) := by
  refine Con.of (ls := #[rv p1, iv x1]) (by decide +kernel) rfl ?_
  refine W.aloadN d26_0 rfl rfl ?_
  refine W.iloadN d26_1 rfl ?_
  refine W.callUp (as := [(vi x1)]) 0 [] d26_2 (wq hw 158 rfl) (same_self (by rfl) (by decide) (wq hw 159 rfl) (wq hw 110 rfl) (wq hw 111 rfl)) (wq hw 159 rfl) (wq hw 120 rfl) (by decide) (wq hw 71 rfl) (wq hw 161 rfl) (Hp.ins m0) (c110_append hw hs (hx1 := hx1) (hvs_p2 := hvs_p2) (mp2 := mp2)) pd_C_Ljava_lang_AbstractStringBuilder_ rfl rfl rfl rfl (by decide) (fun v D' h => ?_)
  obtain ⟨a1, rfl, rfl⟩ := h
  show W _ _ _ _ _ _ _ _ _ _ _ _ 5 _ [(vr p1)]
  refine W.popv d26_5 rfl ?_
  refine W.aloadN d26_6 rfl rfl ?_
  exact W.areturn d26_7 rfl rfl rfl (by decide) ⟨a1, rfl, rfl⟩
theorem c120_ensureCapacityInternal {Z a0} (hw : HW a0 Z) (hs : SF Z) {p1 p2 : Addr} {f_p1_2 f_p1_3 : Value} {vs_p2 : List Value} (hvs_p2 : vs_p2.length = 6) {w_p1 : Bool} {w_p2 : Bool} {ad_p2 : String} {F : List Ent} (mp1 : (p1, w_p1, oStringBuilder (vr p2) (vi 1) f_p1_2 f_p1_3) ∈ F) (mp2 : (p2, w_p2, ar ad_p2 .byte vs_p2) ∈ F) : Con Z EL y21 y21b 3 y21r (rmm 0 0 0 0) [(vr p1), (vi 2)] (F) (fun v D' => (v = none ∧ F = D')) := by
  refine Con.of (ls := #[rv p1, iv 2, uu]) (by decide +kernel) rfl ?_
  refine W.aloadN d28_0 rfl rfl ?_
  refine W.getf d28_1 (wq hw 75 rfl) Via.refl mp1 m0 ?_
  refine W.alen (6) d28_4 mp2 (by rw [hvs_p2]; rfl) ?_
  refine W.aloadN d28_5 rfl rfl ?_
  refine W.getf d28_6 (wq hw 77 rfl) Via.refl mp1 m1 ?_
  refine W.ishrK (3 : Int32) d28_9 (by decide) ?_
  refine W.istoreN (ls' := #[rv p1, iv 2, iv 3]) d28_10 rfl ?_
  refine W.iloadN d28_11 rfl ?_
  refine W.iloadN d28_12 rfl ?_
  refine W.isubK (-1 : Int32) d28_13 (by decide) ?_
  refine W.ifY 38 d28_14 (y_le (by decide)) (by decide) ?_
  exact W.return_ d28_38 rfl (by decide) ⟨rfl, rfl⟩
theorem c119_append {Z a0} (hw : HW a0 Z) (hs : SF Z) {p1 p2 : Addr} {x1 : Int32} (hx1 : 0 ≤ x1.toInt ∧ x1.toInt ≤ 65535) {f_p1_3 e_p2_0 e_p2_1 e_p2_4 e_p2_5 : Value} {ad_p2 : String} {F : List Ent} : Con Z EL y24 y24b 2 y24r (rmm 4 0 0 54) [(vr p1), (vi x1)] ((p1, true, oStringBuilder (vr p2) (vi 1) (vi 1) f_p1_3) :: (p2, true, ar ad_p2 .byte [e_p2_0, e_p2_1, (vi 0), (vi 0), e_p2_4, e_p2_5]) :: F) (fun v D' => (v = some (vr p1) ∧ (p2, true, ar ad_p2 .byte [e_p2_0, e_p2_1, (vi x1.toInt8.toInt32), (vi (x1 >>> ((8 : Int32) &&& 31)).toInt8.toInt32), e_p2_4, e_p2_5]) :: (p1, true, oStringBuilder (vr p2) (vi 1) (vi 2) f_p1_3) :: F = D')) := by
  refine Con.of (ls := #[rv p1, iv x1]) (by decide +kernel) rfl ?_
  refine W.aloadN d27_0 rfl rfl ?_
  refine W.aloadN d27_1 rfl rfl ?_
  refine W.getf d27_2 (wq hw 122 rfl) Via.refl m0 m2 ?_
  refine W.iconst (1) d27_5 (by decide) ?_
  refine W.iaddK (2 : Int32) d27_6 (by decide) ?_
  refine W.callP (as := [(vi 2)]) 0 [] d27_7 (wq hw 162 rfl) (wq hw 163 rfl) (wq hw 165 rfl) (wq hw 164 rfl) (wq hw 71 rfl) (wq hw 166 rfl) (Hp.exa m0) (c120_ensureCapacityInternal hw hs (hvs_p2 := rfl) (mp1 := m0) (mp2 := m1)) (by decide) pd_I_V rfl rfl rfl rfl (by decide) (fun v D' h => ?_)
  obtain ⟨rfl, rfl⟩ := h
  show W _ _ _ _ _ _ _ _ _ _ _ _ 10 _ []
  refine W.aloadN d27_10 rfl rfl ?_
  refine W.callV (as := []) 0 [] d27_11 (wq hw 167 rfl) (wq hw 125 rfl) (wq hw 127 rfl) (wq hw 127 rfl) (wq hw 126 rfl) (wq hw 71 rfl) (wq hw 128 rfl) (Hp.exa m0) (c79_isLatin1 hw hs (mp1 := m0)) (by decide) pd__Z rfl rfl rfl rfl (by decide) (fun v D' h => ?_)
  obtain ⟨rfl, rfl⟩ := h
  show W _ _ _ _ _ _ _ _ _ _ _ _ 14 _ [(vi 0)]
  refine W.ifY 45 d27_14 (y_eq (by decide)) (by decide) ?_
  refine W.aloadN d27_45 rfl rfl ?_
  refine W.callV (as := []) 0 [] d27_46 (wq hw 167 rfl) (wq hw 125 rfl) (wq hw 127 rfl) (wq hw 127 rfl) (wq hw 126 rfl) (wq hw 71 rfl) (wq hw 128 rfl) (Hp.exa m0) (c79_isLatin1 hw hs (mp1 := m0)) (by decide) pd__Z rfl rfl rfl rfl (by decide) (fun v D' h => ?_)
  obtain ⟨rfl, rfl⟩ := h
  show W _ _ _ _ _ _ _ _ _ _ _ _ 49 _ [(vi 0)]
  refine W.ifY 56 d27_49 (y_eq (by decide)) (by decide) ?_
  refine W.aloadN d27_56 rfl rfl ?_
  refine W.getf d27_57 (wq hw 75 rfl) Via.refl m0 m0 ?_
  refine W.aloadN d27_60 rfl rfl ?_
  refine W.dup d27_61 rfl ?_
  refine W.getf d27_62 (wq hw 122 rfl) Via.refl m0 m2 ?_
  refine W.dupX1 d27_65 rfl rfl ?_
  refine W.iconst (1) d27_66 (by decide) ?_
  refine W.iaddK (2 : Int32) d27_67 (by decide) ?_
  refine W.putf (D' := (p1, true, oStringBuilder (vr p2) (vi 1) (vi 2) f_p1_3) :: (p2, true, ar ad_p2 .byte [e_p2_0, e_p2_1, (vi 0), (vi 0), e_p2_4, e_p2_5]) :: F) 0 2 d27_68 (wq hw 122 rfl) Via.refl rfl rfl (Or.inl (wq hw 123 rfl)) (wq hw 51 rfl) pfI rfl rfl rfl ?_
  refine W.iloadN d27_71 rfl ?_
  refine W.front 1 (D' := (p2, true, ar ad_p2 .byte [e_p2_0, e_p2_1, (vi 0), (vi 0), e_p2_4, e_p2_5]) :: (p1, true, oStringBuilder (vr p2) (vi 1) (vi 2) f_p1_3) :: F) rfl rfl ?_
  refine W.callS (as := [(vr p2), (vi 1), (vi x1)]) 0 [] d27_72 (wq hw 240 rfl) (wq hw 241 rfl) (wq hw 145 rfl) (wq hw 242 rfl) (c99_putCharSB hw hs (hx1 := hx1)) (by decide) pd__BII_V rfl rfl rfl rfl (by decide) (fun v D' h => ?_)
  obtain ⟨rfl, rfl⟩ := h
  show W _ _ _ _ _ _ _ _ _ _ _ _ 75 _ []
  refine W.aloadN d27_75 rfl rfl ?_
  exact W.areturn d27_76 rfl rfl rfl (by decide) ⟨rfl, rfl⟩
theorem c118_append {Z a0} (hw : HW a0 Z) (hs : SF Z) {p1 p2 : Addr} {x1 : Int32} (hx1 : 0 ≤ x1.toInt ∧ x1.toInt ≤ 65535) {f_p1_3 e_p2_0 e_p2_1 e_p2_4 e_p2_5 : Value} {ad_p2 : String} {F : List Ent} : Con Z EL y25 y25b 2 y25r (rmm 5 0 0 67) [(vr p1), (vi x1)] ((p1, true, oStringBuilder (vr p2) (vi 1) (vi 1) f_p1_3) :: (p2, true, ar ad_p2 .byte [e_p2_0, e_p2_1, (vi 0), (vi 0), e_p2_4, e_p2_5]) :: F) (fun v D' => (v = some (vr p1) ∧ (p2, true, ar ad_p2 .byte [e_p2_0, e_p2_1, (vi x1.toInt8.toInt32), (vi (x1 >>> ((8 : Int32) &&& 31)).toInt8.toInt32), e_p2_4, e_p2_5]) :: (p1, true, oStringBuilder (vr p2) (vi 1) (vi 2) f_p1_3) :: F = D')) := by
  refine Con.of (ls := #[rv p1, iv x1]) (by decide +kernel) rfl ?_
  refine W.aloadN d26_0 rfl rfl ?_
  refine W.iloadN d26_1 rfl ?_
  refine W.callUp (as := [(vi x1)]) 0 [] d26_2 (wq hw 158 rfl) (same_self (by rfl) (by decide) (wq hw 159 rfl) (wq hw 110 rfl) (wq hw 111 rfl)) (wq hw 159 rfl) (wq hw 120 rfl) (by decide) (wq hw 71 rfl) (wq hw 161 rfl) (Hp.ins m0) (c119_append hw hs (hx1 := hx1)) pd_C_Ljava_lang_AbstractStringBuilder_ rfl rfl rfl rfl (by decide) (fun v D' h => ?_)
  obtain ⟨rfl, rfl⟩ := h
  show W _ _ _ _ _ _ _ _ _ _ _ _ 5 _ [(vr p1)]
  refine W.popv d26_5 rfl ?_
  refine W.aloadN d26_6 rfl rfl ?_
  exact W.areturn d26_7 rfl rfl rfl (by decide) ⟨rfl, rfl⟩
theorem c124_copyOfRange {Z a0} (hw : HW a0 Z) (hs : SF Z) {p1 : Addr} {x1 : Int32} (hx1 : 256 ≤ x1.toInt ∧ x1.toInt ≤ 65535) {x2 : Int32} (hx2 : 0 ≤ x2.toInt ∧ x2.toInt ≤ 65535) {x3 : Int32} (hx3 : 0 ≤ x3.toInt ∧ x3.toInt ≤ 65535) {w_p1 : Bool} {F : List Ent} (mp1 : (p1, w_p1, ar "[B" .byte [(vi x1.toInt8.toInt32), (vi (x1 >>> ((8 : Int32) &&& 31)).toInt8.toInt32), (vi x2.toInt8.toInt32), (vi (x2 >>> ((8 : Int32) &&& 31)).toInt8.toInt32), (vi x3.toInt8.toInt32), (vi (x3 >>> ((8 : Int32) &&& 31)).toInt8.toInt32)]) ∈ F) : Con Z EL y29 y29b 3 y29r (rmm 1 1 6 14) [(vr p1), (vi 0), (vi 6)] (F) (fun v D' => (∃ a1 : Addr, v = some (vr a1) ∧ (a1, true, ar "[B" .byte [(vi x1.toInt8.toInt32), (vi (x1 >>> ((8 : Int32) &&& 31)).toInt8.toInt32), (vi x2.toInt8.toInt32), (vi (x2 >>> ((8 : Int32) &&& 31)).toInt8.toInt32), (vi x3.toInt8.toInt32), (vi (x3 >>> ((8 : Int32) &&& 31)).toInt8.toInt32)]) :: F = D')) := by
  refine Con.of (ls := #[rv p1, iv 0, iv 6]) (by decide +kernel) rfl ?_
  refine W.iloadN d22_0 rfl ?_
  refine W.ifN d22_1 (n_ne (by decide)) ?_
  refine W.iloadN d22_4 rfl ?_
  refine W.aloadN d22_5 rfl rfl ?_
  refine W.alen (6) d22_6 mp1 rfl ?_
  refine W.icmpY 17 d22_7 (y_eq (by decide)) (by decide) ?_
  refine W.aloadN d22_17 rfl rfl ?_
  refine W.clone 0 6 d22_18 (wq hw 133 rfl) (wq hw 134 rfl) (wq hw 138 rfl) (wq hw 136 rfl) (wq hw 137 rfl) (wq hw 139 rfl) mp1 (by decide) rfl rfl rfl (by decide) (fun a1 => ?_)
  show W _ _ _ _ _ _ _ _ _ _ _ _ 21 _ [(vr a1)]
  refine W.castY d22_21 (wq hw 140 rfl) (Hp.insA m0 (by decide)) ?_
  exact W.areturn d22_24 rfl rfl rfl (by decide) ⟨a1, rfl, rfl⟩
theorem c123_init {Z a0} (hw : HW a0 Z) (hs : SF Z) {p1 p2 p3 : Addr} {x1 : Int32} (hx1 : 256 ≤ x1.toInt ∧ x1.toInt ≤ 65535) {x2 : Int32} (hx2 : 0 ≤ x2.toInt ∧ x2.toInt ≤ 65535) {x3 : Int32} (hx3 : 0 ≤ x3.toInt ∧ x3.toInt ≤ 65535) {w_p2 : Bool} {w_p3 : Bool} {F : List Ent} (mp2 : (p2, w_p2, oStringBuilder (vr p3) (vi 1) (vi 3) (vi 0)) ∈ F) (mp3 : (p3, w_p3, ar "[B" .byte [(vi x1.toInt8.toInt32), (vi (x1 >>> ((8 : Int32) &&& 31)).toInt8.toInt32), (vi x2.toInt8.toInt32), (vi (x2 >>> ((8 : Int32) &&& 31)).toInt8.toInt32), (vi x3.toInt8.toInt32), (vi (x3 >>> ((8 : Int32) &&& 31)).toInt8.toInt32)]) ∈ F) : Con Z EL y30 y30b 5 y30r (rmm 2 1 6 29) [(vr p1), (vr p2), .null] ((p1, true, oString .null (vi 0)) :: F) (fun v D' => (∃ a1 : Addr, v = none ∧ (a1, true, ar "[B" .byte [(vi x1.toInt8.toInt32), (vi (x1 >>> ((8 : Int32) &&& 31)).toInt8.toInt32), (vi x2.toInt8.toInt32), (vi (x2 >>> ((8 : Int32) &&& 31)).toInt8.toInt32), (vi x3.toInt8.toInt32), (vi (x3 >>> ((8 : Int32) &&& 31)).toInt8.toInt32)]) :: (p1, true, oString (vr a1) (vi 1)) :: F = D')) := by
  refine Con.of (ls := #[rv p1, rv p2, .val .null, uu, uu]) (by decide +kernel) rfl ?_
  refine W.aloadN d17_0 rfl rfl ?_
  refine W.initO 0 d17_1 (wq hw 11 rfl) (wq hw 12 rfl) (wq hw 13 rfl) rfl rfl (by decide) ?_
  refine W.aloadN d17_4 rfl rfl ?_
  refine W.callV (as := []) 0 [] d17_5 (wq hw 108 rfl) (wq hw 109 rfl) (wq hw 111 rfl) (wq hw 111 rfl) (wq hw 110 rfl) (wq hw 71 rfl) (wq hw 112 rfl) (Hp.exa (mS mp2)) (c41_getValue hw hs (mp1 := (mS mp2))) (by decide) pd___B rfl rfl rfl rfl (by decide) (fun v D' h => ?_)
  obtain ⟨rfl, rfl⟩ := h
  show W _ _ _ _ _ _ _ _ _ _ _ _ 8 _ [(vr p3)]
  refine W.astoreN (ls' := #[rv p1, rv p2, .val .null, rv p3, uu]) d17_8 rfl rfl ?_
  refine W.aloadN d17_9 rfl rfl ?_
  refine W.callVN (as := []) 0 [] d17_10 (wq hw 113 rfl) (wq hw 114 rfl) (by rfl) (wq hw 110 rfl) (wq hw 111 rfl) (wq hw 116 rfl) (wq hw 117 rfl) (wq hw 52 rfl) (wq hw 118 rfl) (Hp.exa (mS mp2)) (c42_length hw hs (mp1 := (mS mp2))) (by decide) pd__I rfl rfl rfl rfl (by decide) (fun v D' h => ?_)
  obtain ⟨rfl, rfl⟩ := h
  show W _ _ _ _ _ _ _ _ _ _ _ _ 13 _ [(vi 3)]
  refine W.istore (ls' := #[rv p1, rv p2, .val .null, rv p3, iv 3]) d17_13 rfl ?_
  refine W.aloadN d17_15 rfl rfl ?_
  refine W.callV (as := []) 0 [] d17_16 (wq hw 124 rfl) (wq hw 125 rfl) (wq hw 127 rfl) (wq hw 127 rfl) (wq hw 126 rfl) (wq hw 71 rfl) (wq hw 128 rfl) (Hp.exa (mS mp2)) (c79_isLatin1 hw hs (mp1 := (mS mp2))) (by decide) pd__Z rfl rfl rfl rfl (by decide) (fun v D' h => ?_)
  obtain ⟨rfl, rfl⟩ := h
  show W _ _ _ _ _ _ _ _ _ _ _ _ 19 _ [(vi 0)]
  refine W.ifY 41 d17_19 (y_eq (by decide)) (by decide) ?_
  refine W.gets d17_41 (wq hw 63 rfl) Via.refl hs.1 ?_
  refine W.ifN d17_44 (n_eq (by have := hs.2.1; have := q0; omega)) ?_
  refine W.aloadN d17_47 rfl rfl ?_
  refine W.getf d17_48 (wq hw 247 rfl) Via.refl (mS mp2) m3 ?_
  refine W.ifY 79 d17_51 (y_eq (by decide)) (by decide) ?_
  refine W.aloadN d17_79 rfl rfl ?_
  refine W.iconst (1) d17_80 (by decide) ?_
  refine W.putf (D' := (p1, true, oString .null (vi 1)) :: F) 0 1 d17_81 (wq hw 21 rfl) Via.refl rfl rfl (Or.inr ⟨(wq hw 17 rfl), rfl, rfl⟩) (wq hw 2 rfl) pfB (nw_byte (by decide)) (ft_byte (by decide)) rfl ?_
  refine W.aloadN d17_84 rfl rfl ?_
  refine W.aloadN d17_85 rfl rfl ?_
  refine W.iconst (0) d17_86 (by decide) ?_
  refine W.iload d17_87 rfl ?_
  refine W.iconst (1) d17_89 (by decide) ?_
  refine W.ishlK (6 : Int32) d17_90 (by decide) ?_
  refine W.callS (as := [(vr p3), (vi 0), (vi 6)]) 1 [(vr p1)] d17_91 (wq hw 129 rfl) (wq hw 130 rfl) (wq hw 131 rfl) (wq hw 132 rfl) (c124_copyOfRange hw hs (hx1 := hx1) (hx2 := hx2) (hx3 := hx3) (mp1 := (mS mp3))) (by decide) pd__BII__B rfl rfl rfl rfl (by decide) (fun v D' h => ?_)
  obtain ⟨a1, rfl, rfl⟩ := h
  show W _ _ _ _ _ _ _ _ _ _ _ _ 94 _ [(vr a1), (vr p1)]
  refine W.putf (D' := (a1, true, ar "[B" .byte [(vi x1.toInt8.toInt32), (vi (x1 >>> ((8 : Int32) &&& 31)).toInt8.toInt32), (vi x2.toInt8.toInt32), (vi (x2 >>> ((8 : Int32) &&& 31)).toInt8.toInt32), (vi x3.toInt8.toInt32), (vi (x3 >>> ((8 : Int32) &&& 31)).toInt8.toInt32)]) :: (p1, true, oString (vr a1) (vi 1)) :: F) 1 0 d17_94 (wq hw 20 rfl) Via.refl rfl rfl (Or.inr ⟨(wq hw 16 rfl), rfl, rfl⟩) (wq hw 2 rfl) pf_B rfl rfl rfl ?_
  exact W.return_ d17_97 rfl (by decide) ⟨a1, rfl, rfl⟩
theorem c122_init {Z a0} (hw : HW a0 Z) (hs : SF Z) {p1 p2 p3 : Addr} {x1 : Int32} (hx1 : 256 ≤ x1.toInt ∧ x1.toInt ≤ 65535) {x2 : Int32} (hx2 : 0 ≤ x2.toInt ∧ x2.toInt ≤ 65535) {x3 : Int32} (hx3 : 0 ≤ x3.toInt ∧ x3.toInt ≤ 65535) {w_p2 : Bool} {w_p3 : Bool} {F : List Ent} (mp2 : (p2, w_p2, oStringBuilder (vr p3) (vi 1) (vi 3) (vi 0)) ∈ F) (mp3 : (p3, w_p3, ar "[B" .byte [(vi x1.toInt8.toInt32), (vi (x1 >>> ((8 : Int32) &&& 31)).toInt8.toInt32), (vi x2.toInt8.toInt32), (vi (x2 >>> ((8 : Int32) &&& 31)).toInt8.toInt32), (vi x3.toInt8.toInt32), (vi (x3 >>> ((8 : Int32) &&& 31)).toInt8.toInt32)]) ∈ F) : Con Z EL y31 y31b 2 y31r (rmm 3 1 6 45) [(vr p1), (vr p2)] ((p1, true, oString .null (vi 0)) :: F) (fun v D' => (∃ a1 : Addr, v = none ∧ (a1, true, ar "[B" .byte [(vi x1.toInt8.toInt32), (vi (x1 >>> ((8 : Int32) &&& 31)).toInt8.toInt32), (vi x2.toInt8.toInt32), (vi (x2 >>> ((8 : Int32) &&& 31)).toInt8.toInt32), (vi x3.toInt8.toInt32), (vi (x3 >>> ((8 : Int32) &&& 31)).toInt8.toInt32)]) :: (p1, true, oString (vr a1) (vi 1)) :: F = D')) := by
  refine Con.of (ls := #[rv p1, rv p2]) (by decide +kernel) rfl ?_
  refine W.aloadN d16_0 rfl rfl ?_
  refine W.aloadN d16_1 rfl rfl ?_
  refine W.aconstNull d16_2 ?_
  refine W.callI (as := [(vr p2), .null]) 0 [] d16_3 rfl (wq hw 105 rfl) (wq hw 106 rfl) (wq hw 3 rfl) (wq hw 107 rfl) (c123_init hw hs (hx1 := hx1) (hx2 := hx2) (hx3 := hx3) (mp2 := mp2) (mp3 := mp3)) (by decide) pd_Ljava_lang_AbstractStringBuilder_Ljava_lang_Void__V rfl rfl rfl rfl (by decide) (fun v D' h => ?_)
  obtain ⟨a1, rfl, rfl⟩ := h
  show W _ _ _ _ _ _ _ _ _ _ _ _ 6 _ []
  exact W.return_ d16_6 rfl (by decide) ⟨a1, rfl, rfl⟩
theorem c121_toString {Z a0} (hw : HW a0 Z) (hs : SF Z) {p1 p2 : Addr} {x1 : Int32} (hx1 : 256 ≤ x1.toInt ∧ x1.toInt ≤ 65535) {x2 : Int32} (hx2 : 0 ≤ x2.toInt ∧ x2.toInt ≤ 65535) {x3 : Int32} (hx3 : 0 ≤ x3.toInt ∧ x3.toInt ≤ 65535) {w_p1 : Bool} {w_p2 : Bool} {F : List Ent} (mp1 : (p1, w_p1, oStringBuilder (vr p2) (vi 1) (vi 3) (vi 0)) ∈ F) (mp2 : (p2, w_p2, ar "[B" .byte [(vi x1.toInt8.toInt32), (vi (x1 >>> ((8 : Int32) &&& 31)).toInt8.toInt32), (vi x2.toInt8.toInt32), (vi (x2 >>> ((8 : Int32) &&& 31)).toInt8.toInt32), (vi x3.toInt8.toInt32), (vi (x3 >>> ((8 : Int32) &&& 31)).toInt8.toInt32)]) ∈ F) : Con Z EL y32 y32b 1 y32r (rmm 4 2 10 59) [(vr p1)] (F) (fun v D' => (∃ a1 a2 : Addr, v = some (vr a1) ∧ (a2, true, ar "[B" .byte [(vi x1.toInt8.toInt32), (vi (x1 >>> ((8 : Int32) &&& 31)).toInt8.toInt32), (vi x2.toInt8.toInt32), (vi (x2 >>> ((8 : Int32) &&& 31)).toInt8.toInt32), (vi x3.toInt8.toInt32), (vi (x3 >>> ((8 : Int32) &&& 31)).toInt8.toInt32)]) :: (a1, true, oString (vr a2) (vi 1)) :: F = D')) := by
  refine Con.of (ls := #[rv p1]) (by decide +kernel) rfl ?_
  refine W.new d15_0 (wq hw 101 rfl) (wq hw 2 rfl) (wq hw 3 rfl) (laString hw) (by decide) (by decide) (fun a1 => ?_)
  show W _ _ _ _ _ _ _ _ _ _ _ _ 3 _ [(vr a1)]
  refine W.dup d15_3 rfl ?_
  refine W.aloadN d15_4 rfl rfl ?_
  refine W.callI (as := [(vr p1)]) 1 [(vr a1)] d15_5 rfl (wq hw 102 rfl) (wq hw 103 rfl) (wq hw 3 rfl) (wq hw 104 rfl) (c122_init hw hs (hx1 := hx1) (hx2 := hx2) (hx3 := hx3) (mp2 := mp1) (mp3 := mp2)) (by decide) pd_Ljava_lang_StringBuilder__V rfl rfl rfl rfl (by decide) (fun v D' h => ?_)
  obtain ⟨a2, rfl, rfl⟩ := h
  show W _ _ _ _ _ _ _ _ _ _ _ _ 8 _ [(vr a1)]
  exact W.areturn d15_8 rfl rfl rfl (by decide) ⟨a1, a2, rfl, rfl⟩
theorem c108_lowerCase {Z a0} (hw : HW a0 Z) (hs : SF Z) {p1 p2 p3 : Addr} {x2 : Int32} (hx2 : 256 ≤ x2.toInt ∧ x2.toInt ≤ 65535) {x3 : Int32} (hx3 : 0 ≤ x3.toInt ∧ x3.toInt ≤ 65535) {x4 : Int32} (hx4 : 0 ≤ x4.toInt ∧ x4.toInt ≤ 65535) {f_p1_0 f_p1_2 f_p1_3 : Value} {w_p1 : Bool} {w_p2 : Bool} {w_p3 : Bool} {ad_p3 : String} {F : List Ent} (mp1 : (p1, w_p1, oJdqlLexer_Token f_p1_0 (vr p2) f_p1_2 f_p1_3) ∈ F) (mp2 : (p2, w_p2, oString (vr p3) (vi 1)) ∈ F) (mp3 : (p3, w_p3, ar ad_p3 .byte [(vi x2.toInt8.toInt32), (vi (x2 >>> ((8 : Int32) &&& 31)).toInt8.toInt32), (vi x3.toInt8.toInt32), (vi (x3 >>> ((8 : Int32) &&& 31)).toInt8.toInt32), (vi x4.toInt8.toInt32), (vi (x4 >>> ((8 : Int32) &&& 31)).toInt8.toInt32)]) ∈ F) : Con Z EL y33 y33b 6 y33r (rmm 8 6 26 115) [(vr p1)] (F) (fun v D' => (∃ a11 a12 : Addr, v = some (vr a11) ∧ (a12, true, ar "[B" .byte [(vi (lc x2).toInt8.toInt32), (vi ((lc x2) >>> ((8 : Int32) &&& 31)).toInt8.toInt32), (vi (lc x3).toInt8.toInt32), (vi ((lc x3) >>> ((8 : Int32) &&& 31)).toInt8.toInt32), (vi (lc x4).toInt8.toInt32), (vi ((lc x4) >>> ((8 : Int32) &&& 31)).toInt8.toInt32)]) :: (a11, true, oString (vr a12) (vi 1)) :: F = D')) := by
  refine Con.of (ls := #[rv p1, uu, uu, uu, uu, uu]) (by decide +kernel) rfl ?_
  refine W.new d6_0 (wq hw 50 rfl) (wq hw 51 rfl) (wq hw 52 rfl) (laStringBuilder hw) (by decide) (by decide) (fun a1 => ?_)
  show W _ _ _ _ _ _ _ _ _ _ _ _ 3 _ [(vr a1)]
  refine W.dup d6_3 rfl ?_
  refine W.aloadN d6_4 rfl rfl ?_
  refine W.getf d6_5 (wq hw 39 rfl) Via.refl (mS mp1) m1 ?_
  refine W.callV (as := []) 2 [(vr a1), (vr a1)] d6_8 (wq hw 53 rfl) (wq hw 54 rfl) (wq hw 56 rfl) (wq hw 56 rfl) (wq hw 55 rfl) (wq hw 3 rfl) (wq hw 57 rfl) (Hp.exa (mS mp2)) (c55_length hw hs (hvs_p2 := rfl) (mp1 := (mS mp2)) (mp2 := (mS mp3))) (by decide) pd__I rfl rfl rfl rfl (by decide) (fun v D' h => ?_)
  obtain ⟨rfl, rfl⟩ := h
  show W _ _ _ _ _ _ _ _ _ _ _ _ 11 _ [(vi 3), (vr a1), (vr a1)]
  refine W.callI (as := [(vi 3)]) 1 [(vr a1)] d6_11 rfl (wq hw 64 rfl) (wq hw 65 rfl) (wq hw 52 rfl) (wq hw 66 rfl) (c21_init hw hs) (by decide) pd_I_V rfl rfl rfl rfl (by decide) (fun v D' h => ?_)
  obtain ⟨a2, rfl, rfl⟩ := h
  show W _ _ _ _ _ _ _ _ _ _ _ _ 14 _ [(vr a1)]
  refine W.astoreN (ls' := #[rv p1, rv a1, uu, uu, uu, uu]) d6_14 rfl rfl ?_
  refine W.aloadN d6_15 rfl rfl ?_
  refine W.getf d6_16 (wq hw 39 rfl) Via.refl (mS (mS mp1)) m1 ?_
  refine W.callV (as := []) 0 [] d6_19 (wq hw 79 rfl) (wq hw 80 rfl) (wq hw 82 rfl) (wq hw 82 rfl) (wq hw 81 rfl) (wq hw 3 rfl) (wq hw 83 rfl) (Hp.exa (mS (mS mp2))) (c57_toCharArray hw hs (hx1 := (by omega)) (hx2 := hx3) (hx3 := hx4) (mp1 := (mS (mS mp2))) (mp2 := (mS (mS mp3)))) (by decide) pd___C rfl rfl rfl rfl (by decide) (fun v D' h => ?_)
  obtain ⟨a3, rfl, rfl⟩ := h
  show W _ _ _ _ _ _ _ _ _ _ _ _ 22 _ [(vr a3)]
  refine W.astoreN (ls' := #[rv p1, rv a1, rv a3, uu, uu, uu]) d6_22 rfl rfl ?_
  refine W.aloadN d6_23 rfl rfl ?_
  refine W.alen (3) d6_24 m0 rfl ?_
  refine W.istoreN (ls' := #[rv p1, rv a1, rv a3, iv 3, uu, uu]) d6_25 rfl ?_
  refine W.iconst (0) d6_26 (by decide) ?_
  refine W.istore (ls' := #[rv p1, rv a1, rv a3, iv 3, iv 0, uu]) d6_27 rfl ?_
  refine W.iload d6_29 rfl ?_
  refine W.iloadN d6_31 rfl ?_
  refine W.icmpN d6_32 (n_ge (by decide)) ?_
  refine W.aloadN d6_35 rfl rfl ?_
  refine W.iload d6_36 rfl ?_
  refine W.caload 0 d6_38 m0 ix0 rfl ?_
  refine W.istore (ls' := #[rv p1, rv a1, rv a3, iv 3, iv 0, iv x2]) d6_39 rfl ?_
  refine W.aloadN d6_41 rfl rfl ?_
  have K5 : W Z EL (rmm 8 6 26 115) "com/example/rochester/rochester/JdqlLexer$Token" "lowerCase" prog_12_method_5_code 6 (Option.some (Jvm.ClassFile.FieldType.object "java/lang/String")) (fun v D' => (∃ a11 a12 : Addr, v = some (vr a11) ∧ (a12, true, ar "[B" .byte [(vi (lc x2).toInt8.toInt32), (vi ((lc x2) >>> ((8 : Int32) &&& 31)).toInt8.toInt32), (vi (lc x3).toInt8.toInt32), (vi ((lc x3) >>> ((8 : Int32) &&& 31)).toInt8.toInt32), (vi (lc x4).toInt8.toInt32), (vi ((lc x4) >>> ((8 : Int32) &&& 31)).toInt8.toInt32)]) :: (a11, true, oString (vr a12) (vi 1)) :: F = D')) ((a3, true, ar "[C" .char [(vi x2), (vi x3), (vi x4)]) :: (a2, true, ar "[B" .byte [(vi 0), (vi 0), (vi 0)]) :: (a1, true, oStringBuilder (vr a2) (vi 0) (vi 0) (vi 0)) :: F) 3 10 70 #[rv p1, rv a1, rv a3, iv 3, iv 0, iv x2] [(vi (lc x2)), (vr a1)] := by
   refine W.front 2 (D' := (a1, true, oStringBuilder (vr a2) (vi 0) (vi 0) (vi 0)) :: (a3, true, ar "[C" .char [(vi x2), (vi x3), (vi x4)]) :: (a2, true, ar "[B" .byte [(vi 0), (vi 0), (vi 0)]) :: F) rfl rfl ?_
   refine W.callV (as := [(vi (lc x2))]) 0 [] d6_70 (wq hw 153 rfl) (wq hw 154 rfl) (wq hw 156 rfl) (wq hw 156 rfl) (wq hw 155 rfl) (wq hw 52 rfl) (wq hw 157 rfl) (Hp.exa m0) (c109_append hw hs (hx1 := (by have := a_lc x2; omega)) (hvs_p2 := rfl) (mp2 := m1)) (by decide) pd_C_Ljava_lang_StringBuilder_ rfl rfl rfl rfl (by decide) (fun v D' h => ?_)
   obtain ⟨a6, rfl, rfl⟩ := h
   show W _ _ _ _ _ _ _ _ _ _ _ _ 73 _ [(vr a1)]
   refine W.popv d6_73 rfl ?_
   refine W.iincK (ls' := #[rv p1, rv a1, rv a3, iv 3, iv 1, iv x2]) (1) (1 : Int32) d6_74 (by decide) rfl (by decide) rfl ?_
   refine W.goto 29 d6_77 (by decide) ?_
   refine W.iload d6_29 rfl ?_
   refine W.iloadN d6_31 rfl ?_
   refine W.icmpN d6_32 (n_ge (by decide)) ?_
   refine W.aloadN d6_35 rfl rfl ?_
   refine W.iload d6_36 rfl ?_
   refine W.caload 1 d6_38 m2 ix1 rfl ?_
   refine W.istore (ls' := #[rv p1, rv a1, rv a3, iv 3, iv 1, iv x3]) d6_39 rfl ?_
   refine W.aloadN d6_41 rfl rfl ?_
   have K8 : W Z EL (rmm 8 6 26 115) "com/example/rochester/rochester/JdqlLexer$Token" "lowerCase" prog_12_method_5_code 6 (Option.some (Jvm.ClassFile.FieldType.object "java/lang/String")) (fun v D' => (∃ a11 a12 : Addr, v = some (vr a11) ∧ (a12, true, ar "[B" .byte [(vi (lc x2).toInt8.toInt32), (vi ((lc x2) >>> ((8 : Int32) &&& 31)).toInt8.toInt32), (vi (lc x3).toInt8.toInt32), (vi ((lc x3) >>> ((8 : Int32) &&& 31)).toInt8.toInt32), (vi (lc x4).toInt8.toInt32), (vi ((lc x4) >>> ((8 : Int32) &&& 31)).toInt8.toInt32)]) :: (a11, true, oString (vr a12) (vi 1)) :: F = D')) ((a6, true, ar "[B" .byte [(vi (lc x2).toInt8.toInt32), (vi ((lc x2) >>> ((8 : Int32) &&& 31)).toInt8.toInt32), (vi 0), (vi 0), (vi 0), (vi 0)]) :: (a1, true, oStringBuilder (vr a6) (vi 1) (vi 1) (vi 0)) :: (a3, true, ar "[C" .char [(vi x2), (vi x3), (vi x4)]) :: (a2, true, ar "[B" .byte [(vi 0), (vi 0), (vi 0)]) :: F) 4 16 70 #[rv p1, rv a1, rv a3, iv 3, iv 1, iv x3] [(vi (lc x3)), (vr a1)] := by
    refine W.front 1 (D' := (a1, true, oStringBuilder (vr a6) (vi 1) (vi 1) (vi 0)) :: (a6, true, ar "[B" .byte [(vi (lc x2).toInt8.toInt32), (vi ((lc x2) >>> ((8 : Int32) &&& 31)).toInt8.toInt32), (vi 0), (vi 0), (vi 0), (vi 0)]) :: (a3, true, ar "[C" .char [(vi x2), (vi x3), (vi x4)]) :: (a2, true, ar "[B" .byte [(vi 0), (vi 0), (vi 0)]) :: F) rfl rfl ?_
    refine W.callV (as := [(vi (lc x3))]) 0 [] d6_70 (wq hw 153 rfl) (wq hw 154 rfl) (wq hw 156 rfl) (wq hw 156 rfl) (wq hw 155 rfl) (wq hw 52 rfl) (wq hw 157 rfl) (Hp.exa m0) (c118_append hw hs (hx1 := (by have := a_lc x3; omega))) (by decide) pd_C_Ljava_lang_StringBuilder_ rfl rfl rfl rfl (by decide) (fun v D' h => ?_)
    obtain ⟨rfl, rfl⟩ := h
    show W _ _ _ _ _ _ _ _ _ _ _ _ 73 _ [(vr a1)]
    refine W.popv d6_73 rfl ?_
    refine W.iincK (ls' := #[rv p1, rv a1, rv a3, iv 3, iv 2, iv x3]) (1) (2 : Int32) d6_74 (by decide) rfl (by decide) rfl ?_
    refine W.goto 29 d6_77 (by decide) ?_
    refine W.iload d6_29 rfl ?_
    refine W.iloadN d6_31 rfl ?_
    refine W.icmpN d6_32 (n_ge (by decide)) ?_
    refine W.aloadN d6_35 rfl rfl ?_
    refine W.iload d6_36 rfl ?_
    refine W.caload 2 d6_38 m2 ix2 rfl ?_
    refine W.istore (ls' := #[rv p1, rv a1, rv a3, iv 3, iv 2, iv x4]) d6_39 rfl ?_
    refine W.aloadN d6_41 rfl rfl ?_
    have K10 : W Z EL (rmm 8 6 26 115) "com/example/rochester/rochester/JdqlLexer$Token" "lowerCase" prog_12_method_5_code 6 (Option.some (Jvm.ClassFile.FieldType.object "java/lang/String")) (fun v D' => (∃ a11 a12 : Addr, v = some (vr a11) ∧ (a12, true, ar "[B" .byte [(vi (lc x2).toInt8.toInt32), (vi ((lc x2) >>> ((8 : Int32) &&& 31)).toInt8.toInt32), (vi (lc x3).toInt8.toInt32), (vi ((lc x3) >>> ((8 : Int32) &&& 31)).toInt8.toInt32), (vi (lc x4).toInt8.toInt32), (vi ((lc x4) >>> ((8 : Int32) &&& 31)).toInt8.toInt32)]) :: (a11, true, oString (vr a12) (vi 1)) :: F = D')) ((a6, true, ar "[B" .byte [(vi (lc x2).toInt8.toInt32), (vi ((lc x2) >>> ((8 : Int32) &&& 31)).toInt8.toInt32), (vi (lc x3).toInt8.toInt32), (vi ((lc x3) >>> ((8 : Int32) &&& 31)).toInt8.toInt32), (vi 0), (vi 0)]) :: (a1, true, oStringBuilder (vr a6) (vi 1) (vi 2) (vi 0)) :: (a3, true, ar "[C" .char [(vi x2), (vi x3), (vi x4)]) :: (a2, true, ar "[B" .byte [(vi 0), (vi 0), (vi 0)]) :: F) 4 16 70 #[rv p1, rv a1, rv a3, iv 3, iv 2, iv x4] [(vi (lc x4)), (vr a1)] := by
     refine W.front 1 (D' := (a1, true, oStringBuilder (vr a6) (vi 1) (vi 2) (vi 0)) :: (a6, true, ar "[B" .byte [(vi (lc x2).toInt8.toInt32), (vi ((lc x2) >>> ((8 : Int32) &&& 31)).toInt8.toInt32), (vi (lc x3).toInt8.toInt32), (vi ((lc x3) >>> ((8 : Int32) &&& 31)).toInt8.toInt32), (vi 0), (vi 0)]) :: (a3, true, ar "[C" .char [(vi x2), (vi x3), (vi x4)]) :: (a2, true, ar "[B" .byte [(vi 0), (vi 0), (vi 0)]) :: F) rfl rfl ?_
     refine W.callV (as := [(vi (lc x4))]) 0 [] d6_70 (wq hw 153 rfl) (wq hw 154 rfl) (wq hw 156 rfl) (wq hw 156 rfl) (wq hw 155 rfl) (wq hw 52 rfl) (wq hw 157 rfl) (Hp.exa m0) (c100_append hw hs (hx1 := (by have := a_lc x4; omega))) (by decide) pd_C_Ljava_lang_StringBuilder_ rfl rfl rfl rfl (by decide) (fun v D' h => ?_)
     obtain ⟨rfl, rfl⟩ := h
     show W _ _ _ _ _ _ _ _ _ _ _ _ 73 _ [(vr a1)]
     refine W.popv d6_73 rfl ?_
     refine W.iincK (ls' := #[rv p1, rv a1, rv a3, iv 3, iv 3, iv x4]) (1) (3 : Int32) d6_74 (by decide) rfl (by decide) rfl ?_
     refine W.goto 29 d6_77 (by decide) ?_
     refine W.iload d6_29 rfl ?_
     refine W.iloadN d6_31 rfl ?_
     refine W.icmpY 80 d6_32 (y_ge (by decide)) (by decide) ?_
     refine W.aloadN d6_80 rfl rfl ?_
     refine W.callV (as := []) 0 [] d6_81 (wq hw 96 rfl) (wq hw 97 rfl) (wq hw 99 rfl) (wq hw 99 rfl) (wq hw 98 rfl) (wq hw 52 rfl) (wq hw 100 rfl) (Hp.exa m1) (c121_toString hw hs (hx1 := (by have := a_lc x2; omega)) (hx2 := (by have := a_lc x3; omega)) (hx3 := (by have := a_lc x4; omega)) (mp1 := m1) (mp2 := m0)) (by decide) pd__Ljava_lang_String_ rfl rfl rfl rfl (by decide) (fun v D' h => ?_)
     obtain ⟨a11, a12, rfl, rfl⟩ := h
     show W _ _ _ _ _ _ _ _ _ _ _ _ 84 _ [(vr a11)]
     refine W.dropAt 2 (D' := (a12, true, ar "[B" .byte [(vi (lc x2).toInt8.toInt32), (vi ((lc x2) >>> ((8 : Int32) &&& 31)).toInt8.toInt32), (vi (lc x3).toInt8.toInt32), (vi ((lc x3) >>> ((8 : Int32) &&& 31)).toInt8.toInt32), (vi (lc x4).toInt8.toInt32), (vi ((lc x4) >>> ((8 : Int32) &&& 31)).toInt8.toInt32)]) :: (a11, true, oString (vr a12) (vi 1)) :: (a1, true, oStringBuilder (vr a6) (vi 1) (vi 3) (vi 0)) :: (a3, true, ar "[C" .char [(vi x2), (vi x3), (vi x4)]) :: (a2, true, ar "[B" .byte [(vi 0), (vi 0), (vi 0)]) :: F) rfl ?_
     refine W.dropAt 2 (D' := (a12, true, ar "[B" .byte [(vi (lc x2).toInt8.toInt32), (vi ((lc x2) >>> ((8 : Int32) &&& 31)).toInt8.toInt32), (vi (lc x3).toInt8.toInt32), (vi ((lc x3) >>> ((8 : Int32) &&& 31)).toInt8.toInt32), (vi (lc x4).toInt8.toInt32), (vi ((lc x4) >>> ((8 : Int32) &&& 31)).toInt8.toInt32)]) :: (a11, true, oString (vr a12) (vi 1)) :: (a3, true, ar "[C" .char [(vi x2), (vi x3), (vi x4)]) :: (a2, true, ar "[B" .byte [(vi 0), (vi 0), (vi 0)]) :: F) rfl ?_
     refine W.dropAt 2 (D' := (a12, true, ar "[B" .byte [(vi (lc x2).toInt8.toInt32), (vi ((lc x2) >>> ((8 : Int32) &&& 31)).toInt8.toInt32), (vi (lc x3).toInt8.toInt32), (vi ((lc x3) >>> ((8 : Int32) &&& 31)).toInt8.toInt32), (vi (lc x4).toInt8.toInt32), (vi ((lc x4) >>> ((8 : Int32) &&& 31)).toInt8.toInt32)]) :: (a11, true, oString (vr a12) (vi 1)) :: (a2, true, ar "[B" .byte [(vi 0), (vi 0), (vi 0)]) :: F) rfl ?_
     refine W.dropAt 2 (D' := (a12, true, ar "[B" .byte [(vi (lc x2).toInt8.toInt32), (vi ((lc x2) >>> ((8 : Int32) &&& 31)).toInt8.toInt32), (vi (lc x3).toInt8.toInt32), (vi ((lc x3) >>> ((8 : Int32) &&& 31)).toInt8.toInt32), (vi (lc x4).toInt8.toInt32), (vi ((lc x4) >>> ((8 : Int32) &&& 31)).toInt8.toInt32)]) :: (a11, true, oString (vr a12) (vi 1)) :: F) rfl ?_
     exact W.areturn d6_84 rfl rfl rfl (by decide) ⟨a11, a12, rfl, rfl⟩
    refine W.iload d6_42 rfl ?_
    refine W.bipush (65) d6_44 (by decide) ?_
    refine W.icmp 68 d6_46 (by decide) (fun h1 => ?_) (fun h1 => ?_)
    ·
     have ih1 := t_lt h1
     refine W.iload d6_68 rfl ?_
     refine W.top (y := (lc x4)) (lc_of (by have := q65; omega)) ?_
     exact W.mono (by decide) (by decide) (K10  )
    ·
     have ih1 := f_lt h1
     refine W.iload d6_49 rfl ?_
     refine W.bipush (90) d6_51 (by decide) ?_
     refine W.icmp 68 d6_53 (by decide) (fun h2 => ?_) (fun h2 => ?_)
     ·
      have ih2 := t_gt h2
      refine W.iload d6_68 rfl ?_
      refine W.top (y := (lc x4)) (lc_of (by have := q65; have := q90; omega)) ?_
      exact W.mono (by decide) (by decide) (K10  )
     ·
      have ih2 := f_gt h2
      refine W.iload d6_56 rfl ?_
      refine W.bipush (65) d6_58 (by decide) ?_
      refine W.isub d6_60 ?_
      refine W.bipush (97) d6_61 (by decide) ?_
      refine W.iadd d6_63 ?_
      refine W.i2cK ((x4 - (65 : Int32)) + (97 : Int32)) d6_64 (z_i2c (by have := q65; have := a_sub x4 (65 : Int32); have := q97; have := a_add (x4 - (65 : Int32)) (97 : Int32); have := q90; omega)) ?_
      refine W.goto 70 d6_65 (by decide) ?_
      refine W.top (y := (lc x4)) (lc_of (by have := q65; have := a_sub x4 (65 : Int32); have := q97; have := a_add (x4 - (65 : Int32)) (97 : Int32); have := q90; omega)) ?_
      exact W.mono (by decide) (by decide) (K10  )
   refine W.iload d6_42 rfl ?_
   refine W.bipush (65) d6_44 (by decide) ?_
   refine W.icmp 68 d6_46 (by decide) (fun h3 => ?_) (fun h3 => ?_)
   ·
    have ih3 := t_lt h3
    refine W.iload d6_68 rfl ?_
    refine W.top (y := (lc x3)) (lc_of (by have := q65; omega)) ?_
    exact W.mono (by decide) (by decide) (K8  )
   ·
    have ih3 := f_lt h3
    refine W.iload d6_49 rfl ?_
    refine W.bipush (90) d6_51 (by decide) ?_
    refine W.icmp 68 d6_53 (by decide) (fun h4 => ?_) (fun h4 => ?_)
    ·
     have ih4 := t_gt h4
     refine W.iload d6_68 rfl ?_
     refine W.top (y := (lc x3)) (lc_of (by have := q65; have := q90; omega)) ?_
     exact W.mono (by decide) (by decide) (K8  )
    ·
     have ih4 := f_gt h4
     refine W.iload d6_56 rfl ?_
     refine W.bipush (65) d6_58 (by decide) ?_
     refine W.isub d6_60 ?_
     refine W.bipush (97) d6_61 (by decide) ?_
     refine W.iadd d6_63 ?_
     refine W.i2cK ((x3 - (65 : Int32)) + (97 : Int32)) d6_64 (z_i2c (by have := q65; have := a_sub x3 (65 : Int32); have := q97; have := a_add (x3 - (65 : Int32)) (97 : Int32); have := q90; omega)) ?_
     refine W.goto 70 d6_65 (by decide) ?_
     refine W.top (y := (lc x3)) (lc_of (by have := q65; have := a_sub x3 (65 : Int32); have := q97; have := a_add (x3 - (65 : Int32)) (97 : Int32); have := q90; omega)) ?_
     exact W.mono (by decide) (by decide) (K8  )
  refine W.iload d6_42 rfl ?_
  refine W.bipush (65) d6_44 (by decide) ?_
  refine W.icmpN d6_46 (n_lt (by have := q65; omega)) ?_
  refine W.iload d6_49 rfl ?_
  refine W.bipush (90) d6_51 (by decide) ?_
  refine W.icmpY 68 d6_53 (y_gt (by have := q90; omega)) (by decide) ?_
  refine W.iload d6_68 rfl ?_
  refine W.top (y := (lc x2)) (lc_of (by omega)) ?_
  exact W.mono (by decide) (by decide) (K5  )
theorem c128_compress {Z a0} (hw : HW a0 Z) (hs : SF Z) {p1 p2 : Addr} {x1 : Int32} (hx1 : 0 ≤ x1.toInt ∧ x1.toInt ≤ 65535) {x2 : Int32} (hx2 : 0 ≤ x2.toInt ∧ x2.toInt ≤ 65535) {ad_p2 : String} {w_p1 : Bool} {ad_p1 : String} {F : List Ent} (mp1 : (p1, w_p1, ar ad_p1 .char [(vi x1), (vi x2)]) ∈ F) : Con Z EL y1 y1b 7 y1r (rmm 0 0 0 0) [(vr p1), (vi 0), (vr p2), (vi 0), (vi 2)] ((p2, true, ar ad_p2 .byte [(vi 0), (vi 0)]) :: F) (fun v D' => (Cd .le x1 (255 : Int32) ∧ Cd .le x2 (255 : Int32) ∧ v = some (vi 2) ∧ (p2, true, ar ad_p2 .byte [(vi x1.toInt8.toInt32), (vi x2.toInt8.toInt32)]) :: F = D') ∨ (Cd .le x1 (255 : Int32) ∧ ¬ Cd .le x2 (255 : Int32) ∧ v = some (vi 1) ∧ (p2, true, ar ad_p2 .byte [(vi x1.toInt8.toInt32), (vi 0)]) :: F = D') ∨ (¬ Cd .le x1 (255 : Int32) ∧ v = some (vi 0) ∧ (p2, true, ar ad_p2 .byte [(vi 0), (vi 0)]) :: F = D')) := by
  refine Con.of (ls := #[rv p1, iv 0, rv p2, iv 0, iv 2, uu, uu]) (by decide +kernel) rfl ?_
  refine W.iconst (0) d24_0 (by decide) ?_
  refine W.istore (ls' := #[rv p1, iv 0, rv p2, iv 0, iv 2, iv 0, uu]) d24_1 rfl ?_
  refine W.iload d24_3 rfl ?_
  refine W.iload d24_5 rfl ?_
  refine W.icmpN d24_7 (n_ge (by decide)) ?_
  refine W.aloadN d24_10 rfl rfl ?_
  refine W.iloadN d24_11 rfl ?_
  refine W.caload 0 d24_12 (mS mp1) ix0 rfl ?_
  refine W.istore (ls' := #[rv p1, iv 0, rv p2, iv 0, iv 2, iv 0, iv x1]) d24_13 rfl ?_
  refine W.iload d24_15 rfl ?_
  refine W.sipush (255) d24_17 (by decide) ?_
  refine W.icmp 26 d24_20 (by decide) (fun h1 => ?_) (fun h1 => ?_)
  ·
   have ih1 := t_le h1
   refine W.aloadN d24_26 rfl rfl ?_
   refine W.iloadN d24_27 rfl ?_
   refine W.iload d24_28 rfl ?_
   refine W.i2b d24_30 ?_
   refine W.bastore (D' := (p2, true, ar ad_p2 .byte [(vi x1.toInt8.toInt32), (vi 0)]) :: F) 0 0 d24_31 rfl ix0 (Nat.le_of_ble_eq_true rfl) (z_narB (by have := a_i2b x1; have := q255; omega)) rfl ?_
   refine W.iincK (ls' := #[rv p1, iv 1, rv p2, iv 0, iv 2, iv 0, iv x1]) (1) (1 : Int32) d24_32 (by decide) rfl (by decide) rfl ?_
   refine W.iincK (ls' := #[rv p1, iv 1, rv p2, iv 1, iv 2, iv 0, iv x1]) (1) (1 : Int32) d24_35 (by decide) rfl (by decide) rfl ?_
   refine W.iincK (ls' := #[rv p1, iv 1, rv p2, iv 1, iv 2, iv 1, iv x1]) (1) (1 : Int32) d24_38 (by decide) rfl (by decide) rfl ?_
   refine W.goto 3 d24_41 (by decide) ?_
   refine W.iload d24_3 rfl ?_
   refine W.iload d24_5 rfl ?_
   refine W.icmpN d24_7 (n_ge (by decide)) ?_
   refine W.aloadN d24_10 rfl rfl ?_
   refine W.iloadN d24_11 rfl ?_
   refine W.caload 1 d24_12 (mS mp1) ix1 rfl ?_
   refine W.istore (ls' := #[rv p1, iv 1, rv p2, iv 1, iv 2, iv 1, iv x2]) d24_13 rfl ?_
   refine W.iload d24_15 rfl ?_
   refine W.sipush (255) d24_17 (by decide) ?_
   refine W.icmp 26 d24_20 (by decide) (fun h2 => ?_) (fun h2 => ?_)
   ·
    have ih2 := t_le h2
    refine W.aloadN d24_26 rfl rfl ?_
    refine W.iloadN d24_27 rfl ?_
    refine W.iload d24_28 rfl ?_
    refine W.i2b d24_30 ?_
    refine W.bastore (D' := (p2, true, ar ad_p2 .byte [(vi x1.toInt8.toInt32), (vi x2.toInt8.toInt32)]) :: F) 0 1 d24_31 rfl ix1 (Nat.le_of_ble_eq_true rfl) (z_narB (by have := a_i2b x2; have := q255; omega)) rfl ?_
    refine W.iincK (ls' := #[rv p1, iv 2, rv p2, iv 1, iv 2, iv 1, iv x2]) (1) (2 : Int32) d24_32 (by decide) rfl (by decide) rfl ?_
    refine W.iincK (ls' := #[rv p1, iv 2, rv p2, iv 2, iv 2, iv 1, iv x2]) (1) (2 : Int32) d24_35 (by decide) rfl (by decide) rfl ?_
    refine W.iincK (ls' := #[rv p1, iv 2, rv p2, iv 2, iv 2, iv 2, iv x2]) (1) (2 : Int32) d24_38 (by decide) rfl (by decide) rfl ?_
    refine W.goto 3 d24_41 (by decide) ?_
    refine W.iload d24_3 rfl ?_
    refine W.iload d24_5 rfl ?_
    refine W.icmpY 44 d24_7 (y_ge (by decide)) (by decide) ?_
    refine W.iload d24_44 rfl ?_
    exact W.ireturn d24_46 rfl (Or.inl rfl) rfl (by decide) (Or.inl ⟨h1, h2, rfl, rfl⟩)
   ·
    have ih2 := f_le h2
    refine W.iload d24_23 rfl ?_
    exact W.ireturn d24_25 rfl (Or.inl rfl) rfl (by decide) (Or.inr (Or.inl ⟨h1, h2, rfl, rfl⟩))
  ·
   have ih1 := f_le h1
   refine W.iload d24_23 rfl ?_
   exact W.ireturn d24_25 rfl (Or.inl rfl) rfl (by decide) (Or.inr (Or.inr ⟨h1, rfl, rfl⟩))
theorem c131_newBytesLength {Z a0} (hw : HW a0 Z) (hs : SF Z) {F : List Ent} : Con Z EL y2 y2b 1 y2r (rmm 0 0 0 0) [(vi 2)] (F) (fun v D' => (v = some (vi 4) ∧ F = D')) := by
  refine Con.of (ls := #[iv 2]) (by decide +kernel) rfl ?_
  refine W.iloadN d37_0 rfl ?_
  refine W.ifY 12 d37_1 (y_ge (by decide)) (by decide) ?_
  refine W.iloadN d37_12 rfl ?_
  refine W.ldcI d37_13 (wq hw 200 rfl) ?_
  refine W.icmpY 55 d37_15 (y_lt (by decide)) (by decide) ?_
  refine W.iloadN d37_55 rfl ?_
  refine W.iconst (1) d37_56 (by decide) ?_
  refine W.ishlK (4 : Int32) d37_57 (by decide) ?_
  exact W.ireturn d37_58 rfl (Or.inl rfl) rfl (by decide) ⟨rfl, rfl⟩
theorem c130_newBytesFor {Z a0} (hw : HW a0 Z) (hs : SF Z) {F : List Ent} : Con Z EL y3 y3b 1 y3r (rmm 1 1 4 12) [(vi 2)] (F) (fun v D' => (∃ a1 : Addr, v = some (vr a1) ∧ (a1, true, ar "[B" .byte [(vi 0), (vi 0), (vi 0), (vi 0)]) :: F = D')) := by
  refine Con.of (ls := #[iv 2]) (by decide +kernel) rfl ?_
  refine W.iloadN d36_0 rfl ?_
  refine W.callS (as := [(vi 2)]) 0 [] d36_1 (wq hw 197 rfl) (wq hw 198 rfl) (wq hw 145 rfl) (wq hw 199 rfl) (c131_newBytesLength hw hs) (by decide) pd_I_I rfl rfl rfl rfl (by decide) (fun v D' h => ?_)
  obtain ⟨rfl, rfl⟩ := h
  show W _ _ _ _ _ _ _ _ _ _ _ _ 4 _ [(vi 4)]
  refine W.newarr 4 (ad := "[B") (ty := .byte) d36_4 rfl (wq hw 15 rfl) ix4 rfl (by decide) (by decide) (fun a1 => ?_)
  show W _ _ _ _ _ _ _ _ _ _ _ _ 6 _ [(vr a1)]
  exact W.areturn d36_6 rfl rfl rfl (by decide) ⟨a1, rfl, rfl⟩
theorem c132_putChar {Z a0} (hw : HW a0 Z) (hs : SF Z) {p1 : Addr} {x1 : Int32} (hx1 : 0 ≤ x1.toInt ∧ x1.toInt ≤ 65535) {e_p1_2 e_p1_3 : Value} {ad_p1 : String} {F : List Ent} : Con Z EL y4 y4b 3 y4r (rmm 0 0 0 0) [(vr p1), (vi 0), (vi x1)] ((p1, true, ar ad_p1 .byte [(vi 0), (vi 0), e_p1_2, e_p1_3]) :: F) (fun v D' => (v = none ∧ (p1, true, ar ad_p1 .byte [(vi x1.toInt8.toInt32), (vi (x1 >>> ((8 : Int32) &&& 31)).toInt8.toInt32), e_p1_2, e_p1_3]) :: F = D')) := by
  refine Con.of (ls := #[rv p1, iv 0, iv x1]) (by decide +kernel) rfl ?_
  refine W.gets d38_0 (wq hw 204 rfl) Via.refl hs.2.2.2.2.1 ?_
  refine W.ifY 28 d38_3 (y_ne (by decide)) (by decide) ?_
  refine W.iloadN d38_28 rfl ?_
  refine W.iconst (1) d38_29 (by decide) ?_
  refine W.ishlK (0 : Int32) d38_30 (by decide) ?_
  refine W.istoreN (ls' := #[rv p1, iv 0, iv x1]) d38_31 rfl ?_
  refine W.aloadN d38_32 rfl rfl ?_
  refine W.iloadN d38_33 rfl ?_
  refine W.iincK (ls' := #[rv p1, iv 1, iv x1]) (1) (1 : Int32) d38_34 (by decide) rfl (by decide) rfl ?_
  refine W.iloadN d38_37 rfl ?_
  refine W.gets d38_38 (wq hw 205 rfl) Via.refl hs.2.2.2.2.2.1 ?_
  refine W.ishrK x1 d38_41 (z_shr0 x1) ?_
  refine W.i2b d38_42 ?_
  refine W.bastore (D' := (p1, true, ar ad_p1 .byte [(vi x1.toInt8.toInt32), (vi 0), e_p1_2, e_p1_3]) :: F) 0 0 d38_43 rfl ix0 (Nat.le_of_ble_eq_true rfl) (z_narB (by have := a_i2b x1; omega)) rfl ?_
  refine W.aloadN d38_44 rfl rfl ?_
  refine W.iloadN d38_45 rfl ?_
  refine W.iloadN d38_46 rfl ?_
  refine W.gets d38_47 (wq hw 206 rfl) Via.refl hs.2.2.2.2.2.2.1 ?_
  refine W.ishr d38_50 ?_
  refine W.i2b d38_51 ?_
  refine W.bastore (D' := (p1, true, ar ad_p1 .byte [(vi x1.toInt8.toInt32), (vi (x1 >>> ((8 : Int32) &&& 31)).toInt8.toInt32), e_p1_2, e_p1_3]) :: F) 0 1 d38_52 rfl ix1 (Nat.le_of_ble_eq_true rfl) (z_narB (by have := q8; have := ashr_8 x1; have := a_i2b (x1 >>> ((8 : Int32) &&& 31)); omega)) rfl ?_
  exact W.return_ d38_53 rfl (by decide) ⟨rfl, rfl⟩
theorem c133_putChar {Z a0} (hw : HW a0 Z) (hs : SF Z) {p1 : Addr} {x1 : Int32} (hx1 : 0 ≤ x1.toInt ∧ x1.toInt ≤ 65535) {e_p1_0 e_p1_1 : Value} {ad_p1 : String} {F : List Ent} : Con Z EL y4 y4b 3 y4r (rmm 0 0 0 0) [(vr p1), (vi 1), (vi x1)] ((p1, true, ar ad_p1 .byte [e_p1_0, e_p1_1, (vi 0), (vi 0)]) :: F) (fun v D' => (v = none ∧ (p1, true, ar ad_p1 .byte [e_p1_0, e_p1_1, (vi x1.toInt8.toInt32), (vi (x1 >>> ((8 : Int32) &&& 31)).toInt8.toInt32)]) :: F = D')) := by
  refine Con.of (ls := #[rv p1, iv 1, iv x1]) (by decide +kernel) rfl ?_
  refine W.gets d38_0 (wq hw 204 rfl) Via.refl hs.2.2.2.2.1 ?_
  refine W.ifY 28 d38_3 (y_ne (by decide)) (by decide) ?_
  refine W.iloadN d38_28 rfl ?_
  refine W.iconst (1) d38_29 (by decide) ?_
  refine W.ishlK (2 : Int32) d38_30 (by decide) ?_
  refine W.istoreN (ls' := #[rv p1, iv 2, iv x1]) d38_31 rfl ?_
  refine W.aloadN d38_32 rfl rfl ?_
  refine W.iloadN d38_33 rfl ?_
  refine W.iincK (ls' := #[rv p1, iv 3, iv x1]) (1) (3 : Int32) d38_34 (by decide) rfl (by decide) rfl ?_
  refine W.iloadN d38_37 rfl ?_
  refine W.gets d38_38 (wq hw 205 rfl) Via.refl hs.2.2.2.2.2.1 ?_
  refine W.ishrK x1 d38_41 (z_shr0 x1) ?_
  refine W.i2b d38_42 ?_
  refine W.bastore (D' := (p1, true, ar ad_p1 .byte [e_p1_0, e_p1_1, (vi x1.toInt8.toInt32), (vi 0)]) :: F) 0 2 d38_43 rfl ix2 (Nat.le_of_ble_eq_true rfl) (z_narB (by have := a_i2b x1; omega)) rfl ?_
  refine W.aloadN d38_44 rfl rfl ?_
  refine W.iloadN d38_45 rfl ?_
  refine W.iloadN d38_46 rfl ?_
  refine W.gets d38_47 (wq hw 206 rfl) Via.refl hs.2.2.2.2.2.2.1 ?_
  refine W.ishr d38_50 ?_
  refine W.i2b d38_51 ?_
  refine W.bastore (D' := (p1, true, ar ad_p1 .byte [e_p1_0, e_p1_1, (vi x1.toInt8.toInt32), (vi (x1 >>> ((8 : Int32) &&& 31)).toInt8.toInt32)]) :: F) 0 3 d38_52 rfl ix3 (Nat.le_of_ble_eq_true rfl) (z_narB (by have := q8; have := ashr_8 x1; have := a_i2b (x1 >>> ((8 : Int32) &&& 31)); omega)) rfl ?_
  exact W.return_ d38_53 rfl (by decide) ⟨rfl, rfl⟩
theorem c129_toBytes {Z a0} (hw : HW a0 Z) (hs : SF Z) {p1 : Addr} {x1 : Int32} (hx1 : 0 ≤ x1.toInt ∧ x1.toInt ≤ 65535) {x2 : Int32} (hx2 : 0 ≤ x2.toInt ∧ x2.toInt ≤ 65535) {w_p1 : Bool} {ad_p1 : String} {F : List Ent} (mp1 : (p1, w_p1, ar ad_p1 .char [(vi x1), (vi x2)]) ∈ F) : Con Z EL y5 y5b 5 y5r (rmm 2 1 4 24) [(vr p1), (vi 0), (vi 2)] (F) (fun v D' => (∃ a1 : Addr, v = some (vr a1) ∧ (a1, true, ar "[B" .byte [(vi x1.toInt8.toInt32), (vi (x1 >>> ((8 : Int32) &&& 31)).toInt8.toInt32), (vi x2.toInt8.toInt32), (vi (x2 >>> ((8 : Int32) &&& 31)).toInt8.toInt32)]) :: F = D')) := by
  refine Con.of (ls := #[rv p1, iv 0, iv 2, uu, uu]) (by decide +kernel) rfl ?_
  refine W.iloadN d35_0 rfl ?_
  refine W.callS (as := [(vi 2)]) 0 [] d35_1 (wq hw 194 rfl) (wq hw 195 rfl) (wq hw 145 rfl) (wq hw 196 rfl) (c130_newBytesFor hw hs) (by decide) pd_I__B rfl rfl rfl rfl (by decide) (fun v D' h => ?_)
  obtain ⟨a1, rfl, rfl⟩ := h
  show W _ _ _ _ _ _ _ _ _ _ _ _ 4 _ [(vr a1)]
  refine W.astoreN (ls' := #[rv p1, iv 0, iv 2, rv a1, uu]) d35_4 rfl rfl ?_
  refine W.iconst (0) d35_5 (by decide) ?_
  refine W.istore (ls' := #[rv p1, iv 0, iv 2, rv a1, iv 0]) d35_6 rfl ?_
  refine W.iload d35_8 rfl ?_
  refine W.iloadN d35_10 rfl ?_
  refine W.icmpN d35_11 (n_ge (by decide)) ?_
  refine W.aloadN d35_14 rfl rfl ?_
  refine W.iload d35_15 rfl ?_
  refine W.aloadN d35_17 rfl rfl ?_
  refine W.iloadN d35_18 rfl ?_
  refine W.caload 0 d35_19 (mS mp1) ix0 rfl ?_
  refine W.callS (as := [(vr a1), (vi 0), (vi x1)]) 0 [] d35_20 (wq hw 201 rfl) (wq hw 202 rfl) (wq hw 145 rfl) (wq hw 203 rfl) (c132_putChar hw hs (hx1 := hx1)) (by decide) pd__BII_V rfl rfl rfl rfl (by decide) (fun v D' h => ?_)
  obtain ⟨rfl, rfl⟩ := h
  show W _ _ _ _ _ _ _ _ _ _ _ _ 23 _ []
  refine W.iincK (ls' := #[rv p1, iv 1, iv 2, rv a1, iv 0]) (1) (1 : Int32) d35_23 (by decide) rfl (by decide) rfl ?_
  refine W.iincK (ls' := #[rv p1, iv 1, iv 2, rv a1, iv 1]) (1) (1 : Int32) d35_26 (by decide) rfl (by decide) rfl ?_
  refine W.goto 8 d35_29 (by decide) ?_
  refine W.iload d35_8 rfl ?_
  refine W.iloadN d35_10 rfl ?_
  refine W.icmpN d35_11 (n_ge (by decide)) ?_
  refine W.aloadN d35_14 rfl rfl ?_
  refine W.iload d35_15 rfl ?_
  refine W.aloadN d35_17 rfl rfl ?_
  refine W.iloadN d35_18 rfl ?_
  refine W.caload 1 d35_19 (mS mp1) ix1 rfl ?_
  refine W.callS (as := [(vr a1), (vi 1), (vi x2)]) 0 [] d35_20 (wq hw 201 rfl) (wq hw 202 rfl) (wq hw 145 rfl) (wq hw 203 rfl) (c133_putChar hw hs (hx1 := hx2)) (by decide) pd__BII_V rfl rfl rfl rfl (by decide) (fun v D' h => ?_)
  obtain ⟨rfl, rfl⟩ := h
  show W _ _ _ _ _ _ _ _ _ _ _ _ 23 _ []
  refine W.iincK (ls' := #[rv p1, iv 2, iv 2, rv a1, iv 1]) (1) (2 : Int32) d35_23 (by decide) rfl (by decide) rfl ?_
  refine W.iincK (ls' := #[rv p1, iv 2, iv 2, rv a1, iv 2]) (1) (2 : Int32) d35_26 (by decide) rfl (by decide) rfl ?_
  refine W.goto 8 d35_29 (by decide) ?_
  refine W.iload d35_8 rfl ?_
  refine W.iloadN d35_10 rfl ?_
  refine W.icmpY 32 d35_11 (y_ge (by decide)) (by decide) ?_
  refine W.aloadN d35_32 rfl rfl ?_
  exact W.areturn d35_33 rfl rfl rfl (by decide) ⟨a1, rfl, rfl⟩
theorem c134_getChar {Z a0} (hw : HW a0 Z) (hs : SF Z) {p1 : Addr} {x2 : Int32} (hx2 : 0 ≤ x2.toInt ∧ x2.toInt ≤ 65535) {e_p1_0 e_p1_1 : Value} {w_p1 : Bool} {ad_p1 : String} {F : List Ent} (mp1 : (p1, w_p1, ar ad_p1 .byte [e_p1_0, e_p1_1, (vi x2.toInt8.toInt32), (vi (x2 >>> ((8 : Int32) &&& 31)).toInt8.toInt32)]) ∈ F) : Con Z EL y6 y6b 2 y6r (rmm 0 0 0 0) [(vr p1), (vi 1)] (F) (fun v D' => (v = some (vi x2) ∧ F = D')) := by
  refine Con.of (ls := #[rv p1, iv 1]) (by decide +kernel) rfl ?_
  refine W.gets d39_0 (wq hw 204 rfl) Via.refl hs.2.2.2.2.1 ?_
  refine W.ifY 28 d39_3 (y_ne (by decide)) (by decide) ?_
  refine W.iloadN d39_28 rfl ?_
  refine W.iconst (1) d39_29 (by decide) ?_
  refine W.ishlK (2 : Int32) d39_30 (by decide) ?_
  refine W.istoreN (ls' := #[rv p1, iv 2]) d39_31 rfl ?_
  refine W.aloadN d39_32 rfl rfl ?_
  refine W.iloadN d39_33 rfl ?_
  refine W.iincK (ls' := #[rv p1, iv 3]) (1) (3 : Int32) d39_34 (by decide) rfl (by decide) rfl ?_
  refine W.baload 2 d39_37 mp1 ix2 rfl ?_
  refine W.sipush (255) d39_38 (by decide) ?_
  refine W.iand d39_41 ?_
  refine W.gets d39_42 (wq hw 205 rfl) Via.refl hs.2.2.2.2.2.1 ?_
  refine W.ishlK (x2.toInt8.toInt32 &&& (255 : Int32)) d39_45 (z_shl0 (x2.toInt8.toInt32 &&& (255 : Int32))) ?_
  refine W.aloadN d39_46 rfl rfl ?_
  refine W.iloadN d39_47 rfl ?_
  refine W.baload 3 d39_48 mp1 ix3 rfl ?_
  refine W.sipush (255) d39_49 (by decide) ?_
  refine W.iandK (x2 >>> ((8 : Int32) &&& 31)) d39_52 (z_b255 (by have := q8; have := ashr_8 x2; omega)) ?_
  refine W.gets d39_53 (wq hw 206 rfl) Via.refl hs.2.2.2.2.2.2.1 ?_
  refine W.ishl d39_56 ?_
  refine W.iorK x2 d39_57 (z_or8 hx2 (by have := a_i2b x2; have := q255; have := am_255 x2.toInt8.toInt32; omega) (by have := q8; have := ashr_8 x2; have := ashl_8 (x2 >>> ((8 : Int32) &&& 31)); omega)) ?_
  refine W.i2cK x2 d39_58 (z_i2c hx2) ?_
  exact W.ireturn d39_59 rfl (Or.inr (Or.inr (Or.inr (Or.inl rfl)))) (nw_char hx2) (by decide) ⟨rfl, rfl⟩
theorem c135_getChar {Z a0} (hw : HW a0 Z) (hs : SF Z) {p1 : Addr} {x1 : Int32} (hx1 : 0 ≤ x1.toInt ∧ x1.toInt ≤ 65535) {e_p1_2 e_p1_3 : Value} {w_p1 : Bool} {ad_p1 : String} {F : List Ent} (mp1 : (p1, w_p1, ar ad_p1 .byte [(vi x1.toInt8.toInt32), (vi (x1 >>> ((8 : Int32) &&& 31)).toInt8.toInt32), e_p1_2, e_p1_3]) ∈ F) : Con Z EL y6 y6b 2 y6r (rmm 0 0 0 0) [(vr p1), (vi 0)] (F) (fun v D' => (v = some (vi x1) ∧ F = D')) := by
  refine Con.of (ls := #[rv p1, iv 0]) (by decide +kernel) rfl ?_
  refine W.gets d39_0 (wq hw 204 rfl) Via.refl hs.2.2.2.2.1 ?_
  refine W.ifY 28 d39_3 (y_ne (by decide)) (by decide) ?_
  refine W.iloadN d39_28 rfl ?_
  refine W.iconst (1) d39_29 (by decide) ?_
  refine W.ishlK (0 : Int32) d39_30 (by decide) ?_
  refine W.istoreN (ls' := #[rv p1, iv 0]) d39_31 rfl ?_
  refine W.aloadN d39_32 rfl rfl ?_
  refine W.iloadN d39_33 rfl ?_
  refine W.iincK (ls' := #[rv p1, iv 1]) (1) (1 : Int32) d39_34 (by decide) rfl (by decide) rfl ?_
  refine W.baload 0 d39_37 mp1 ix0 rfl ?_
  refine W.sipush (255) d39_38 (by decide) ?_
  refine W.iand d39_41 ?_
  refine W.gets d39_42 (wq hw 205 rfl) Via.refl hs.2.2.2.2.2.1 ?_
  refine W.ishlK (x1.toInt8.toInt32 &&& (255 : Int32)) d39_45 (z_shl0 (x1.toInt8.toInt32 &&& (255 : Int32))) ?_
  refine W.aloadN d39_46 rfl rfl ?_
  refine W.iloadN d39_47 rfl ?_
  refine W.baload 1 d39_48 mp1 ix1 rfl ?_
  refine W.sipush (255) d39_49 (by decide) ?_
  refine W.iandK (x1 >>> ((8 : Int32) &&& 31)) d39_52 (z_b255 (by have := q8; have := ashr_8 x1; omega)) ?_
  refine W.gets d39_53 (wq hw 206 rfl) Via.refl hs.2.2.2.2.2.2.1 ?_
  refine W.ishl d39_56 ?_
  refine W.iorK x1 d39_57 (z_or8 hx1 (by have := a_i2b x1; have := q255; have := am_255 x1.toInt8.toInt32; omega) (by have := q8; have := ashr_8 x1; have := ashl_8 (x1 >>> ((8 : Int32) &&& 31)); omega)) ?_
  refine W.i2cK x1 d39_58 (z_i2c hx1) ?_
  exact W.ireturn d39_59 rfl (Or.inr (Or.inr (Or.inr (Or.inl rfl)))) (nw_char hx1) (by decide) ⟨rfl, rfl⟩
theorem c127_compress {Z a0} (hw : HW a0 Z) (hs : SF Z) {p1 : Addr} {x1 : Int32} (hx1 : 0 ≤ x1.toInt ∧ x1.toInt ≤ 65535) {x2 : Int32} (hx2 : 0 ≤ x2.toInt ∧ x2.toInt ≤ 65535) {w_p1 : Bool} {ad_p1 : String} {F : List Ent} (mp1 : (p1, w_p1, ar ad_p1 .char [(vi x1), (vi x2)]) ∈ F) : Con Z EL y7 y7b 6 y7r (rmm 3 2 6 40) [(vr p1), (vi 0), (vi 2)] (F) (fun v D' => (∃ a1 : Addr, Cd .le x1 (255 : Int32) ∧ Cd .le x2 (255 : Int32) ∧ v = some (vr a1) ∧ (a1, true, ar "[B" .byte [(vi x1.toInt8.toInt32), (vi x2.toInt8.toInt32)]) :: F = D') ∨ (∃ a2 : Addr, Cd .le x1 (255 : Int32) ∧ ¬ Cd .le x2 (255 : Int32) ∧ v = some (vr a2) ∧ (a2, true, ar "[B" .byte [(vi x1.toInt8.toInt32), (vi (x1 >>> ((8 : Int32) &&& 31)).toInt8.toInt32), (vi x2.toInt8.toInt32), (vi (x2 >>> ((8 : Int32) &&& 31)).toInt8.toInt32)]) :: F = D') ∨ (∃ a3 : Addr, ¬ Cd .le x1 (255 : Int32) ∧ v = some (vr a3) ∧ (a3, true, ar "[B" .byte [(vi x1.toInt8.toInt32), (vi (x1 >>> ((8 : Int32) &&& 31)).toInt8.toInt32), (vi x2.toInt8.toInt32), (vi (x2 >>> ((8 : Int32) &&& 31)).toInt8.toInt32)]) :: F = D')) := by
  refine Con.of (ls := #[rv p1, iv 0, iv 2, uu, uu, uu]) (by decide +kernel) rfl ?_
  refine W.iloadN d23_0 rfl ?_
  refine W.newarr 2 (ad := "[B") (ty := .byte) d23_1 rfl (wq hw 15 rfl) ix2 rfl (by decide) (by decide) (fun a1 => ?_)
  show W _ _ _ _ _ _ _ _ _ _ _ _ 3 _ [(vr a1)]
  refine W.astoreN (ls' := #[rv p1, iv 0, iv 2, rv a1, uu, uu]) d23_3 rfl rfl ?_
  refine W.aloadN d23_4 rfl rfl ?_
  refine W.iloadN d23_5 rfl ?_
  refine W.aloadN d23_6 rfl rfl ?_
  refine W.iconst (0) d23_7 (by decide) ?_
  refine W.iloadN d23_8 rfl ?_
  refine W.callS (as := [(vr p1), (vi 0), (vr a1), (vi 0), (vi 2)]) 0 [] d23_9 (wq hw 147 rfl) (wq hw 148 rfl) (wq hw 145 rfl) (wq hw 149 rfl) (c128_compress hw hs (hx1 := hx1) (hx2 := hx2) (mp1 := mp1)) (by decide) pd__CI_BII_I rfl rfl rfl rfl (by decide) (fun v D' h => ?_)
  rcases h with ⟨h1, h2, rfl, rfl⟩ | ⟨h3, h4, rfl, rfl⟩ | ⟨h5, rfl, rfl⟩
  ·
   have ih1 := t_le h1
   have ih2 := t_le h2
   show W _ _ _ _ _ _ _ _ _ _ _ _ 12 _ [(vi 2)]
   refine W.istore (ls' := #[rv p1, iv 0, iv 2, rv a1, iv 2, uu]) d23_12 rfl ?_
   refine W.iload d23_14 rfl ?_
   refine W.iloadN d23_16 rfl ?_
   refine W.icmpY 57 d23_17 (y_eq (by decide)) (by decide) ?_
   refine W.aloadN d23_57 rfl rfl ?_
   exact W.areturn d23_58 rfl rfl rfl (by decide) (Or.inl ⟨a1, h1, h2, rfl, rfl⟩)
  ·
   have ih3 := t_le h3
   have ih4 := f_le h4
   show W _ _ _ _ _ _ _ _ _ _ _ _ 12 _ [(vi 1)]
   refine W.istore (ls' := #[rv p1, iv 0, iv 2, rv a1, iv 1, uu]) d23_12 rfl ?_
   refine W.iload d23_14 rfl ?_
   refine W.iloadN d23_16 rfl ?_
   refine W.icmpN d23_17 (n_eq (by decide)) ?_
   refine W.aloadN d23_20 rfl rfl ?_
   refine W.iloadN d23_21 rfl ?_
   refine W.iloadN d23_22 rfl ?_
   refine W.callS (as := [(vr p1), (vi 0), (vi 2)]) 0 [] d23_23 (wq hw 191 rfl) (wq hw 192 rfl) (wq hw 145 rfl) (wq hw 193 rfl) (c129_toBytes hw hs (hx1 := hx1) (hx2 := hx2) (mp1 := (mS mp1))) (by decide) pd__CII__B rfl rfl rfl rfl (by decide) (fun v D' h => ?_)
   obtain ⟨a2, rfl, rfl⟩ := h
   show W _ _ _ _ _ _ _ _ _ _ _ _ 26 _ [(vr a2)]
   refine W.astore (ls' := #[rv p1, iv 0, iv 2, rv a1, iv 1, rv a2]) d23_26 rfl rfl ?_
   refine W.aload 5 d23_28 rfl rfl ?_
   refine W.iload d23_30 rfl ?_
   refine W.callS (as := [(vr a2), (vi 1)]) 0 [] d23_32 (wq hw 207 rfl) (wq hw 208 rfl) (wq hw 145 rfl) (wq hw 209 rfl) (c134_getChar hw hs (hx2 := hx2) (mp1 := m0)) (by decide) pd__BI_C rfl rfl rfl rfl (by decide) (fun v D' h => ?_)
   obtain ⟨rfl, rfl⟩ := h
   show W _ _ _ _ _ _ _ _ _ _ _ _ 35 _ [(vi x2)]
   refine W.sipush (255) d23_35 (by decide) ?_
   refine W.icmpY 54 d23_38 (y_gt (by have := q255; omega)) (by decide) ?_
   refine W.aload 5 d23_54 rfl rfl ?_
   refine W.dropAt 1 (D' := (a2, true, ar "[B" .byte [(vi x1.toInt8.toInt32), (vi (x1 >>> ((8 : Int32) &&& 31)).toInt8.toInt32), (vi x2.toInt8.toInt32), (vi (x2 >>> ((8 : Int32) &&& 31)).toInt8.toInt32)]) :: F) rfl ?_
   exact W.areturn d23_56 rfl rfl rfl (by decide) (Or.inr (Or.inl ⟨a2, h3, h4, rfl, rfl⟩))
  ·
   have ih5 := f_le h5
   show W _ _ _ _ _ _ _ _ _ _ _ _ 12 _ [(vi 0)]
   refine W.istore (ls' := #[rv p1, iv 0, iv 2, rv a1, iv 0, uu]) d23_12 rfl ?_
   refine W.iload d23_14 rfl ?_
   refine W.iloadN d23_16 rfl ?_
   refine W.icmpN d23_17 (n_eq (by decide)) ?_
   refine W.aloadN d23_20 rfl rfl ?_
   refine W.iloadN d23_21 rfl ?_
   refine W.iloadN d23_22 rfl ?_
   refine W.callS (as := [(vr p1), (vi 0), (vi 2)]) 0 [] d23_23 (wq hw 191 rfl) (wq hw 192 rfl) (wq hw 145 rfl) (wq hw 193 rfl) (c129_toBytes hw hs (hx1 := hx1) (hx2 := hx2) (mp1 := (mS mp1))) (by decide) pd__CII__B rfl rfl rfl rfl (by decide) (fun v D' h => ?_)
   obtain ⟨a3, rfl, rfl⟩ := h
   show W _ _ _ _ _ _ _ _ _ _ _ _ 26 _ [(vr a3)]
   refine W.astore (ls' := #[rv p1, iv 0, iv 2, rv a1, iv 0, rv a3]) d23_26 rfl rfl ?_
   refine W.aload 5 d23_28 rfl rfl ?_
   refine W.iload d23_30 rfl ?_
   refine W.callS (as := [(vr a3), (vi 0)]) 0 [] d23_32 (wq hw 207 rfl) (wq hw 208 rfl) (wq hw 145 rfl) (wq hw 209 rfl) (c135_getChar hw hs (hx1 := hx1) (mp1 := m0)) (by decide) pd__BI_C rfl rfl rfl rfl (by decide) (fun v D' h => ?_)
   obtain ⟨rfl, rfl⟩ := h
   show W _ _ _ _ _ _ _ _ _ _ _ _ 35 _ [(vi x1)]
   refine W.sipush (255) d23_35 (by decide) ?_
   refine W.icmpY 54 d23_38 (y_gt (by have := q255; omega)) (by decide) ?_
   refine W.aload 5 d23_54 rfl rfl ?_
   refine W.dropAt 1 (D' := (a3, true, ar "[B" .byte [(vi x1.toInt8.toInt32), (vi (x1 >>> ((8 : Int32) &&& 31)).toInt8.toInt32), (vi x2.toInt8.toInt32), (vi (x2 >>> ((8 : Int32) &&& 31)).toInt8.toInt32)]) :: F) rfl ?_
   exact W.areturn d23_56 rfl rfl rfl (by decide) (Or.inr (Or.inr ⟨a3, h5, rfl, rfl⟩))
theorem c136_coderFromArrayLen {Z a0} (hw : HW a0 Z) (hs : SF Z) {p1 : Addr} {vs_p1 : List Value} (hvs_p1 : vs_p1.length = 2) {w_p1 : Bool} {ad_p1 : String} {F : List Ent} (mp1 : (p1, w_p1, ar ad_p1 .byte vs_p1) ∈ F) : Con Z EL y8 y8b 2 y8r (rmm 0 0 0 0) [(vr p1), (vi 2)] (F) (fun v D' => (v = some (vi 0) ∧ F = D')) := by
  refine Con.of (ls := #[rv p1, iv 2]) (by decide +kernel) rfl ?_
  refine W.iloadN d25_0 rfl ?_
  refine W.aloadN d25_1 rfl rfl ?_
  refine W.alen (2) d25_2 mp1 (by rw [hvs_p1]; rfl) ?_
  refine W.isubK (0 : Int32) d25_3 (by decide) ?_
  refine W.bipush (31) d25_4 (by decide) ?_
  refine W.iushrK (0 : Int32) d25_6 (by decide) ?_
  refine W.i2bK (0 : Int32) d25_7 (by decide) ?_
  exact W.ireturn d25_8 rfl (Or.inr (Or.inr (Or.inl rfl))) (nw_byte (by decide)) (by decide) ⟨rfl, rfl⟩
theorem c137_coderFromArrayLen {Z a0} (hw : HW a0 Z) (hs : SF Z) {p1 : Addr} {vs_p1 : List Value} (hvs_p1 : vs_p1.length = 4) {w_p1 : Bool} {ad_p1 : String} {F : List Ent} (mp1 : (p1, w_p1, ar ad_p1 .byte vs_p1) ∈ F) : Con Z EL y8 y8b 2 y8r (rmm 0 0 0 0) [(vr p1), (vi 2)] (F) (fun v D' => (v = some (vi 1) ∧ F = D')) := by
  refine Con.of (ls := #[rv p1, iv 2]) (by decide +kernel) rfl ?_
  refine W.iloadN d25_0 rfl ?_
  refine W.aloadN d25_1 rfl rfl ?_
  refine W.alen (4) d25_2 mp1 (by rw [hvs_p1]; rfl) ?_
  refine W.isubK (-2 : Int32) d25_3 (by decide) ?_
  refine W.bipush (31) d25_4 (by decide) ?_
  refine W.iushrK (1 : Int32) d25_6 (by decide) ?_
  refine W.i2bK (1 : Int32) d25_7 (by decide) ?_
  exact W.ireturn d25_8 rfl (Or.inr (Or.inr (Or.inl rfl))) (nw_byte (by decide)) (by decide) ⟨rfl, rfl⟩
theorem c126_init {Z a0} (hw : HW a0 Z) (hs : SF Z) {p1 p2 : Addr} {x1 : Int32} (hx1 : 0 ≤ x1.toInt ∧ x1.toInt ≤ 65535) {x2 : Int32} (hx2 : 0 ≤ x2.toInt ∧ x2.toInt ≤ 65535) {w_p2 : Bool} {ad_p2 : String} {F : List Ent} (mp2 : (p2, w_p2, ar ad_p2 .char [(vi x1), (vi x2)]) ∈ F) : Con Z EL y9 y9b 6 y9r (rmm 4 2 6 57) [(vr p1), (vr p2), (vi 0), (vi 2), .null] ((p1, true, oString .null (vi 0)) :: F) (fun v D' => (∃ a1 : Addr, Cd .le x1 (255 : Int32) ∧ Cd .le x2 (255 : Int32) ∧ v = none ∧ (a1, true, ar "[B" .byte [(vi x1.toInt8.toInt32), (vi x2.toInt8.toInt32)]) :: (p1, true, oString (vr a1) (vi 0)) :: F = D') ∨ (∃ a2 : Addr, Cd .le x1 (255 : Int32) ∧ ¬ Cd .le x2 (255 : Int32) ∧ v = none ∧ (a2, true, ar "[B" .byte [(vi x1.toInt8.toInt32), (vi (x1 >>> ((8 : Int32) &&& 31)).toInt8.toInt32), (vi x2.toInt8.toInt32), (vi (x2 >>> ((8 : Int32) &&& 31)).toInt8.toInt32)]) :: (p1, true, oString (vr a2) (vi 1)) :: F = D') ∨ (∃ a3 : Addr, ¬ Cd .le x1 (255 : Int32) ∧ v = none ∧ (a3, true, ar "[B" .byte [(vi x1.toInt8.toInt32), (vi (x1 >>> ((8 : Int32) &&& 31)).toInt8.toInt32), (vi x2.toInt8.toInt32), (vi (x2 >>> ((8 : Int32) &&& 31)).toInt8.toInt32)]) :: (p1, true, oString (vr a3) (vi 1)) :: F = D')) := by
  refine Con.of (ls := #[rv p1, rv p2, iv 0, iv 2, .val .null, uu]) (by decide +kernel) rfl ?_
  refine W.aloadN d2_0 rfl rfl ?_
  refine W.initO 0 d2_1 (wq hw 11 rfl) (wq hw 12 rfl) (wq hw 13 rfl) rfl rfl (by decide) ?_
  refine W.iloadN d2_4 rfl ?_
  refine W.ifY 27 d2_5 (y_ne (by decide)) (by decide) ?_
  refine W.gets d2_27 (wq hw 63 rfl) Via.refl hs.1 ?_
  refine W.ifN d2_30 (n_eq (by have := hs.2.1; have := q0; omega)) ?_
  refine W.aloadN d2_33 rfl rfl ?_
  refine W.iloadN d2_34 rfl ?_
  refine W.iloadN d2_35 rfl ?_
  refine W.callS (as := [(vr p2), (vi 0), (vi 2)]) 0 [] d2_36 (wq hw 143 rfl) (wq hw 144 rfl) (wq hw 145 rfl) (wq hw 146 rfl) (c127_compress hw hs (hx1 := hx1) (hx2 := hx2) (mp1 := (mS mp2))) (by decide) pd__CII__B rfl rfl rfl rfl (by decide) (fun v D' h => ?_)
  rcases h with ⟨a1, h1, h2, rfl, rfl⟩ | ⟨a2, h3, h4, rfl, rfl⟩ | ⟨a3, h5, rfl, rfl⟩
  ·
   have ih1 := t_le h1
   have ih2 := t_le h2
   show W _ _ _ _ _ _ _ _ _ _ _ _ 39 _ [(vr a1)]
   refine W.astore (ls' := #[rv p1, rv p2, iv 0, iv 2, .val .null, rv a1]) d2_39 rfl rfl ?_
   refine W.aloadN d2_41 rfl rfl ?_
   refine W.aload 5 d2_42 rfl rfl ?_
   refine W.iloadN d2_44 rfl ?_
   refine W.callS (as := [(vr a1), (vi 2)]) 1 [(vr p1)] d2_45 (wq hw 150 rfl) (wq hw 151 rfl) (wq hw 145 rfl) (wq hw 152 rfl) (c136_coderFromArrayLen hw hs (hvs_p1 := rfl) (mp1 := m0)) (by decide) pd__BI_B rfl rfl rfl rfl (by decide) (fun v D' h => ?_)
   obtain ⟨rfl, rfl⟩ := h
   show W _ _ _ _ _ _ _ _ _ _ _ _ 48 _ [(vi 0), (vr p1)]
   refine W.putf (D' := (a1, true, ar "[B" .byte [(vi x1.toInt8.toInt32), (vi x2.toInt8.toInt32)]) :: (p1, true, oString .null (vi 0)) :: F) 1 1 d2_48 (wq hw 21 rfl) Via.refl rfl rfl (Or.inr ⟨(wq hw 17 rfl), rfl, rfl⟩) (wq hw 2 rfl) pfB (nw_byte (by decide)) (ft_byte (by decide)) rfl ?_
   refine W.aloadN d2_51 rfl rfl ?_
   refine W.aload 5 d2_52 rfl rfl ?_
   refine W.putf (D' := (a1, true, ar "[B" .byte [(vi x1.toInt8.toInt32), (vi x2.toInt8.toInt32)]) :: (p1, true, oString (vr a1) (vi 0)) :: F) 1 0 d2_54 (wq hw 20 rfl) Via.refl rfl rfl (Or.inr ⟨(wq hw 16 rfl), rfl, rfl⟩) (wq hw 2 rfl) pf_B rfl rfl rfl ?_
   exact W.return_ d2_57 rfl (by decide) (Or.inl ⟨a1, h1, h2, rfl, rfl⟩)
  ·
   have ih3 := t_le h3
   have ih4 := f_le h4
   show W _ _ _ _ _ _ _ _ _ _ _ _ 39 _ [(vr a2)]
   refine W.astore (ls' := #[rv p1, rv p2, iv 0, iv 2, .val .null, rv a2]) d2_39 rfl rfl ?_
   refine W.aloadN d2_41 rfl rfl ?_
   refine W.aload 5 d2_42 rfl rfl ?_
   refine W.iloadN d2_44 rfl ?_
   refine W.callS (as := [(vr a2), (vi 2)]) 1 [(vr p1)] d2_45 (wq hw 150 rfl) (wq hw 151 rfl) (wq hw 145 rfl) (wq hw 152 rfl) (c137_coderFromArrayLen hw hs (hvs_p1 := rfl) (mp1 := m0)) (by decide) pd__BI_B rfl rfl rfl rfl (by decide) (fun v D' h => ?_)
   obtain ⟨rfl, rfl⟩ := h
   show W _ _ _ _ _ _ _ _ _ _ _ _ 48 _ [(vi 1), (vr p1)]
   refine W.putf (D' := (a2, true, ar "[B" .byte [(vi x1.toInt8.toInt32), (vi (x1 >>> ((8 : Int32) &&& 31)).toInt8.toInt32), (vi x2.toInt8.toInt32), (vi (x2 >>> ((8 : Int32) &&& 31)).toInt8.toInt32)]) :: (p1, true, oString .null (vi 1)) :: F) 1 1 d2_48 (wq hw 21 rfl) Via.refl rfl rfl (Or.inr ⟨(wq hw 17 rfl), rfl, rfl⟩) (wq hw 2 rfl) pfB (nw_byte (by decide)) (ft_byte (by decide)) rfl ?_
   refine W.aloadN d2_51 rfl rfl ?_
   refine W.aload 5 d2_52 rfl rfl ?_
   refine W.putf (D' := (a2, true, ar "[B" .byte [(vi x1.toInt8.toInt32), (vi (x1 >>> ((8 : Int32) &&& 31)).toInt8.toInt32), (vi x2.toInt8.toInt32), (vi (x2 >>> ((8 : Int32) &&& 31)).toInt8.toInt32)]) :: (p1, true, oString (vr a2) (vi 1)) :: F) 1 0 d2_54 (wq hw 20 rfl) Via.refl rfl rfl (Or.inr ⟨(wq hw 16 rfl), rfl, rfl⟩) (wq hw 2 rfl) pf_B rfl rfl rfl ?_
   exact W.return_ d2_57 rfl (by decide) (Or.inr (Or.inl ⟨a2, h3, h4, rfl, rfl⟩))
  ·
   have ih5 := f_le h5
   show W _ _ _ _ _ _ _ _ _ _ _ _ 39 _ [(vr a3)]
   refine W.astore (ls' := #[rv p1, rv p2, iv 0, iv 2, .val .null, rv a3]) d2_39 rfl rfl ?_
   refine W.aloadN d2_41 rfl rfl ?_
   refine W.aload 5 d2_42 rfl rfl ?_
   refine W.iloadN d2_44 rfl ?_
   refine W.callS (as := [(vr a3), (vi 2)]) 1 [(vr p1)] d2_45 (wq hw 150 rfl) (wq hw 151 rfl) (wq hw 145 rfl) (wq hw 152 rfl) (c137_coderFromArrayLen hw hs (hvs_p1 := rfl) (mp1 := m0)) (by decide) pd__BI_B rfl rfl rfl rfl (by decide) (fun v D' h => ?_)
   obtain ⟨rfl, rfl⟩ := h
   show W _ _ _ _ _ _ _ _ _ _ _ _ 48 _ [(vi 1), (vr p1)]
   refine W.putf (D' := (a3, true, ar "[B" .byte [(vi x1.toInt8.toInt32), (vi (x1 >>> ((8 : Int32) &&& 31)).toInt8.toInt32), (vi x2.toInt8.toInt32), (vi (x2 >>> ((8 : Int32) &&& 31)).toInt8.toInt32)]) :: (p1, true, oString .null (vi 1)) :: F) 1 1 d2_48 (wq hw 21 rfl) Via.refl rfl rfl (Or.inr ⟨(wq hw 17 rfl), rfl, rfl⟩) (wq hw 2 rfl) pfB (nw_byte (by decide)) (ft_byte (by decide)) rfl ?_
   refine W.aloadN d2_51 rfl rfl ?_
   refine W.aload 5 d2_52 rfl rfl ?_
   refine W.putf (D' := (a3, true, ar "[B" .byte [(vi x1.toInt8.toInt32), (vi (x1 >>> ((8 : Int32) &&& 31)).toInt8.toInt32), (vi x2.toInt8.toInt32), (vi (x2 >>> ((8 : Int32) &&& 31)).toInt8.toInt32)]) :: (p1, true, oString (vr a3) (vi 1)) :: F) 1 0 d2_54 (wq hw 20 rfl) Via.refl rfl rfl (Or.inr ⟨(wq hw 16 rfl), rfl, rfl⟩) (wq hw 2 rfl) pf_B rfl rfl rfl ?_
   exact W.return_ d2_57 rfl (by decide) (Or.inr (Or.inr ⟨a3, h5, rfl, rfl⟩))
theorem c125_init {Z a0} (hw : HW a0 Z) (hs : SF Z) {p1 p2 : Addr} {x1 : Int32} (hx1 : 0 ≤ x1.toInt ∧ x1.toInt ≤ 65535) {x2 : Int32} (hx2 : 0 ≤ x2.toInt ∧ x2.toInt ≤ 65535) {w_p2 : Bool} {ad_p2 : String} {F : List Ent} (mp2 : (p2, w_p2, ar ad_p2 .char [(vi x1), (vi x2)]) ∈ F) : Con Z EL y10 y10b 2 y10r (rmm 5 2 6 74) [(vr p1), (vr p2)] ((p1, true, oString .null (vi 0)) :: F) (fun v D' => (∃ a1 : Addr, Cd .le x1 (255 : Int32) ∧ Cd .le x2 (255 : Int32) ∧ v = none ∧ (a1, true, ar "[B" .byte [(vi x1.toInt8.toInt32), (vi x2.toInt8.toInt32)]) :: (p1, true, oString (vr a1) (vi 0)) :: F = D') ∨ (∃ a2 : Addr, Cd .le x1 (255 : Int32) ∧ ¬ Cd .le x2 (255 : Int32) ∧ v = none ∧ (a2, true, ar "[B" .byte [(vi x1.toInt8.toInt32), (vi (x1 >>> ((8 : Int32) &&& 31)).toInt8.toInt32), (vi x2.toInt8.toInt32), (vi (x2 >>> ((8 : Int32) &&& 31)).toInt8.toInt32)]) :: (p1, true, oString (vr a2) (vi 1)) :: F = D') ∨ (∃ a3 : Addr, ¬ Cd .le x1 (255 : Int32) ∧ v = none ∧ (a3, true, ar "[B" .byte [(vi x1.toInt8.toInt32), (vi (x1 >>> ((8 : Int32) &&& 31)).toInt8.toInt32), (vi x2.toInt8.toInt32), (vi (x2 >>> ((8 : Int32) &&& 31)).toInt8.toInt32)]) :: (p1, true, oString (vr a3) (vi 1)) :: F = D')) := by
  refine Con.of (ls := #[rv p1, rv p2]) (by decide +kernel) rfl ?_
  refine W.aloadN d1_0 rfl rfl ?_
  refine W.aloadN d1_1 rfl rfl ?_
  refine W.iconst (0) d1_2 (by decide) ?_
  refine W.aloadN d1_3 rfl rfl ?_
  refine W.alen (2) d1_4 (mS mp2) rfl ?_
  refine W.aconstNull d1_5 ?_
  refine W.callI (as := [(vr p2), (vi 0), (vi 2), .null]) 0 [] d1_6 rfl (wq hw 7 rfl) (wq hw 8 rfl) (wq hw 3 rfl) (wq hw 10 rfl) (c126_init hw hs (hx1 := hx1) (hx2 := hx2) (mp2 := mp2)) (by decide) pd__CIILjava_lang_Void__V rfl rfl rfl rfl (by decide) (fun v D' h => ?_)
  rcases h with ⟨a1, h1, h2, rfl, rfl⟩ | ⟨a2, h3, h4, rfl, rfl⟩ | ⟨a3, h5, rfl, rfl⟩
  ·
   have ih1 := t_le h1
   have ih2 := t_le h2
   show W _ _ _ _ _ _ _ _ _ _ _ _ 9 _ []
   exact W.return_ d1_9 rfl (by decide) (Or.inl ⟨a1, h1, h2, rfl, rfl⟩)
  ·
   have ih3 := t_le h3
   have ih4 := f_le h4
   show W _ _ _ _ _ _ _ _ _ _ _ _ 9 _ []
   exact W.return_ d1_9 rfl (by decide) (Or.inr (Or.inl ⟨a2, h3, h4, rfl, rfl⟩))
  ·
   have ih5 := f_le h5
   show W _ _ _ _ _ _ _ _ _ _ _ _ 9 _ []
   exact W.return_ d1_9 rfl (by decide) (Or.inr (Or.inr ⟨a3, h5, rfl, rfl⟩))
theorem c139_length {Z a0} (hw : HW a0 Z) (hs : SF Z) {p1 p2 : Addr} {vs_p2 : List Value} (hvs_p2 : vs_p2.length = 2) {w_p1 : Bool} {w_p2 : Bool} {ad_p2 : String} {F : List Ent} (mp1 : (p1, w_p1, oString (vr p2) (vi 0)) ∈ F) (mp2 : (p2, w_p2, ar ad_p2 .byte vs_p2) ∈ F) : Con Z EL y14 y14b 1 y14r (rmm 1 0 0 13) [(vr p1)] (F) (fun v D' => (v = some (vi 2) ∧ F = D')) := by
  refine Con.of (ls := #[rv p1]) (by decide +kernel) rfl ?_
  refine W.aloadN d7_0 rfl rfl ?_
  refine W.getf d7_1 (wq hw 20 rfl) Via.refl mp1 m0 ?_
  refine W.alen (2) d7_4 mp2 (by rw [hvs_p2]; rfl) ?_
  refine W.aloadN d7_5 rfl rfl ?_
  refine W.callV (as := []) 1 [(vi 2)] d7_6 (wq hw 58 rfl) (wq hw 59 rfl) (wq hw 61 rfl) (wq hw 61 rfl) (wq hw 60 rfl) (wq hw 3 rfl) (wq hw 62 rfl) (Hp.exa mp1) (c20_coder hw hs (mp1 := mp1)) (by decide) pd__B rfl rfl rfl rfl (by decide) (fun v D' h => ?_)
  obtain ⟨rfl, rfl⟩ := h
  show W _ _ _ _ _ _ _ _ _ _ _ _ 9 _ [(vi 0), (vi 2)]
  refine W.ishrK (2 : Int32) d7_9 (by decide) ?_
  exact W.ireturn d7_10 rfl (Or.inl rfl) rfl (by decide) ⟨rfl, rfl⟩
theorem c141_init {Z a0} (hw : HW a0 Z) (hs : SF Z) {p1 : Addr} {f_p1_2 f_p1_3 : Value} {F : List Ent} : Con Z EL y15 y15b 2 y15r (rmm 1 1 2 12) [(vr p1), (vi 2)] ((p1, true, oStringBuilder .null (vi 0) f_p1_2 f_p1_3) :: F) (fun v D' => (∃ a1 : Addr, v = none ∧ (a1, true, ar "[B" .byte [(vi 0), (vi 0)]) :: (p1, true, oStringBuilder (vr a1) (vi 0) f_p1_2 f_p1_3) :: F = D')) := by
  refine Con.of (ls := #[rv p1, iv 2]) (by decide +kernel) rfl ?_
  refine W.aloadN d10_0 rfl rfl ?_
  refine W.initO 0 d10_1 (wq hw 73 rfl) (wq hw 12 rfl) (wq hw 13 rfl) rfl rfl (by decide) ?_
  refine W.gets d10_4 (wq hw 74 rfl) Via.refl hs.1 ?_
  refine W.ifN d10_7 (n_eq (by have := hs.2.1; have := q0; omega)) ?_
  refine W.aloadN d10_10 rfl rfl ?_
  refine W.iloadN d10_11 rfl ?_
  refine W.newarr 2 (ad := "[B") (ty := .byte) d10_12 rfl (wq hw 15 rfl) ix2 rfl (by decide) (by decide) (fun a1 => ?_)
  show W _ _ _ _ _ _ _ _ _ _ _ _ 14 _ [(vr a1), (vr p1)]
  refine W.putf (D' := (a1, true, ar "[B" .byte [(vi 0), (vi 0)]) :: (p1, true, oStringBuilder (vr a1) (vi 0) f_p1_2 f_p1_3) :: F) 1 0 d10_14 (wq hw 75 rfl) Via.refl rfl rfl (Or.inl (wq hw 76 rfl)) (wq hw 51 rfl) pf_B rfl rfl rfl ?_
  refine W.aloadN d10_17 rfl rfl ?_
  refine W.iconst (0) d10_18 (by decide) ?_
  refine W.putf (D' := (a1, true, ar "[B" .byte [(vi 0), (vi 0)]) :: (p1, true, oStringBuilder (vr a1) (vi 0) f_p1_2 f_p1_3) :: F) 1 1 d10_19 (wq hw 77 rfl) Via.refl rfl rfl (Or.inl (wq hw 78 rfl)) (wq hw 51 rfl) pfB (nw_byte (by decide)) (ft_byte (by decide)) rfl ?_
  refine W.goto 38 d10_22 (by decide) ?_
  exact W.return_ d10_38 rfl (by decide) ⟨a1, rfl, rfl⟩
theorem c140_init {Z a0} (hw : HW a0 Z) (hs : SF Z) {p1 : Addr} {f_p1_2 f_p1_3 : Value} {F : List Ent} : Con Z EL y16 y16b 2 y16r (rmm 2 1 2 25) [(vr p1), (vi 2)] ((p1, true, oStringBuilder .null (vi 0) f_p1_2 f_p1_3) :: F) (fun v D' => (∃ a1 : Addr, v = none ∧ (a1, true, ar "[B" .byte [(vi 0), (vi 0)]) :: (p1, true, oStringBuilder (vr a1) (vi 0) f_p1_2 f_p1_3) :: F = D')) := by
  refine Con.of (ls := #[rv p1, iv 2]) (by decide +kernel) rfl ?_
  refine W.aloadN d9_0 rfl rfl ?_
  refine W.iloadN d9_1 rfl ?_
  refine W.callI (as := [(vi 2)]) 0 [] d9_2 rfl (wq hw 67 rfl) (wq hw 68 rfl) (wq hw 71 rfl) (wq hw 72 rfl) (c141_init hw hs) (by decide) pd_I_V rfl rfl rfl rfl (by decide) (fun v D' h => ?_)
  obtain ⟨a1, rfl, rfl⟩ := h
  show W _ _ _ _ _ _ _ _ _ _ _ _ 5 _ []
  exact W.return_ d9_5 rfl (by decide) ⟨a1, rfl, rfl⟩
theorem c144_inflate {Z a0} (hw : HW a0 Z) (hs : SF Z) {p1 p2 : Addr} {x1 : Int32} (hx1 : 0 ≤ x1.toInt ∧ x1.toInt ≤ 255) {x2 : Int32} (hx2 : 0 ≤ x2.toInt ∧ x2.toInt ≤ 255) {ad_p2 : String} {w_p1 : Bool} {ad_p1 : String} {F : List Ent} (mp1 : (p1, w_p1, ar ad_p1 .byte [(vi x1.toInt8.toInt32), (vi x2.toInt8.toInt32)]) ∈ F) : Con Z EL y18 y18b 6 y18r (rmm 0 0 0 0) [(vr p1), (vi 0), (vr p2), (vi 0), (vi 2)] ((p2, true, ar ad_p2 .char [(vi 0), (vi 0)]) :: F) (fun v D' => (v = none ∧ (p2, true, ar ad_p2 .char [(vi x1), (vi x2)]) :: F = D')) := by
  refine Con.of (ls := #[rv p1, iv 0, rv p2, iv 0, iv 2, uu]) (by decide +kernel) rfl ?_
  refine W.iconst (0) d14_0 (by decide) ?_
  refine W.istore (ls' := #[rv p1, iv 0, rv p2, iv 0, iv 2, iv 0]) d14_1 rfl ?_
  refine W.iload d14_3 rfl ?_
  refine W.iload d14_5 rfl ?_
  refine W.icmpN d14_7 (n_ge (by decide)) ?_
  refine W.aloadN d14_10 rfl rfl ?_
  refine W.iloadN d14_11 rfl ?_
  refine W.iincK (ls' := #[rv p1, iv 0, rv p2, iv 1, iv 2, iv 0]) (1) (1 : Int32) d14_12 (by decide) rfl (by decide) rfl ?_
  refine W.aloadN d14_15 rfl rfl ?_
  refine W.iloadN d14_16 rfl ?_
  refine W.iincK (ls' := #[rv p1, iv 1, rv p2, iv 1, iv 2, iv 0]) (1) (1 : Int32) d14_17 (by decide) rfl (by decide) rfl ?_
  refine W.baload 0 d14_20 (mS mp1) ix0 rfl ?_
  refine W.sipush (255) d14_21 (by decide) ?_
  refine W.iandK x1 d14_24 (z_b255 hx1) ?_
  refine W.i2cK x1 d14_25 (z_i2c (by omega)) ?_
  refine W.castore (D' := (p2, true, ar ad_p2 .char [(vi x1), (vi 0)]) :: F) 0 0 d14_26 rfl ix0 (Nat.le_of_ble_eq_true rfl) (z_narC (by omega)) rfl ?_
  refine W.iincK (ls' := #[rv p1, iv 1, rv p2, iv 1, iv 2, iv 1]) (1) (1 : Int32) d14_27 (by decide) rfl (by decide) rfl ?_
  refine W.goto 3 d14_30 (by decide) ?_
  refine W.iload d14_3 rfl ?_
  refine W.iload d14_5 rfl ?_
  refine W.icmpN d14_7 (n_ge (by decide)) ?_
  refine W.aloadN d14_10 rfl rfl ?_
  refine W.iloadN d14_11 rfl ?_
  refine W.iincK (ls' := #[rv p1, iv 1, rv p2, iv 2, iv 2, iv 1]) (1) (2 : Int32) d14_12 (by decide) rfl (by decide) rfl ?_
  refine W.aloadN d14_15 rfl rfl ?_
  refine W.iloadN d14_16 rfl ?_
  refine W.iincK (ls' := #[rv p1, iv 2, rv p2, iv 2, iv 2, iv 1]) (1) (2 : Int32) d14_17 (by decide) rfl (by decide) rfl ?_
  refine W.baload 1 d14_20 (mS mp1) ix1 rfl ?_
  refine W.sipush (255) d14_21 (by decide) ?_
  refine W.iandK x2 d14_24 (z_b255 hx2) ?_
  refine W.i2cK x2 d14_25 (z_i2c (by omega)) ?_
  refine W.castore (D' := (p2, true, ar ad_p2 .char [(vi x1), (vi x2)]) :: F) 0 1 d14_26 rfl ix1 (Nat.le_of_ble_eq_true rfl) (z_narC (by omega)) rfl ?_
  refine W.iincK (ls' := #[rv p1, iv 2, rv p2, iv 2, iv 2, iv 2]) (1) (2 : Int32) d14_27 (by decide) rfl (by decide) rfl ?_
  refine W.goto 3 d14_30 (by decide) ?_
  refine W.iload d14_3 rfl ?_
  refine W.iload d14_5 rfl ?_
  refine W.icmpY 33 d14_7 (y_ge (by decide)) (by decide) ?_
  exact W.return_ d14_33 rfl (by decide) ⟨rfl, rfl⟩
theorem c143_toChars {Z a0} (hw : HW a0 Z) (hs : SF Z) {p1 : Addr} {x1 : Int32} (hx1 : 0 ≤ x1.toInt ∧ x1.toInt ≤ 255) {x2 : Int32} (hx2 : 0 ≤ x2.toInt ∧ x2.toInt ≤ 255) {w_p1 : Bool} {ad_p1 : String} {F : List Ent} (mp1 : (p1, w_p1, ar ad_p1 .byte [(vi x1.toInt8.toInt32), (vi x2.toInt8.toInt32)]) ∈ F) : Con Z EL y19 y19b 2 y19r (rmm 1 1 2 17) [(vr p1)] (F) (fun v D' => (∃ a1 : Addr, v = some (vr a1) ∧ (a1, true, ar "[C" .char [(vi x1), (vi x2)]) :: F = D')) := by
  refine Con.of (ls := #[rv p1, uu]) (by decide +kernel) rfl ?_
  refine W.aloadN d13_0 rfl rfl ?_
  refine W.alen (2) d13_1 mp1 rfl ?_
  refine W.newarr 2 (ad := "[C") (ty := .char) d13_2 rfl (wq hw 0 rfl) ix2 rfl (by decide) (by decide) (fun a1 => ?_)
  show W _ _ _ _ _ _ _ _ _ _ _ _ 4 _ [(vr a1)]
  refine W.astoreN (ls' := #[rv p1, rv a1]) d13_4 rfl rfl ?_
  refine W.aloadN d13_5 rfl rfl ?_
  refine W.iconst (0) d13_6 (by decide) ?_
  refine W.aloadN d13_7 rfl rfl ?_
  refine W.iconst (0) d13_8 (by decide) ?_
  refine W.aloadN d13_9 rfl rfl ?_
  refine W.alen (2) d13_10 (mS mp1) rfl ?_
  refine W.callS (as := [(vr p1), (vi 0), (vr a1), (vi 0), (vi 2)]) 0 [] d13_11 (wq hw 93 rfl) (wq hw 94 rfl) (wq hw 91 rfl) (wq hw 95 rfl) (c144_inflate hw hs (hx1 := hx1) (hx2 := hx2) (mp1 := mp1)) (by decide) pd__BI_CII_V rfl rfl rfl rfl (by decide) (fun v D' h => ?_)
  obtain ⟨rfl, rfl⟩ := h
  show W _ _ _ _ _ _ _ _ _ _ _ _ 14 _ []
  refine W.aloadN d13_14 rfl rfl ?_
  exact W.areturn d13_15 rfl rfl rfl (by decide) ⟨a1, rfl, rfl⟩
theorem c142_toCharArray {Z a0} (hw : HW a0 Z) (hs : SF Z) {p1 p2 : Addr} {x1 : Int32} (hx1 : 0 ≤ x1.toInt ∧ x1.toInt ≤ 255) {x2 : Int32} (hx2 : 0 ≤ x2.toInt ∧ x2.toInt ≤ 255) {w_p1 : Bool} {w_p2 : Bool} {ad_p2 : String} {F : List Ent} (mp1 : (p1, w_p1, oString (vr p2) (vi 0)) ∈ F) (mp2 : (p2, w_p2, ar ad_p2 .byte [(vi x1.toInt8.toInt32), (vi x2.toInt8.toInt32)]) ∈ F) : Con Z EL y20 y20b 1 y20r (rmm 2 1 2 30) [(vr p1)] (F) (fun v D' => (∃ a1 : Addr, v = some (vr a1) ∧ (a1, true, ar "[C" .char [(vi x1), (vi x2)]) :: F = D')) := by
  refine Con.of (ls := #[rv p1]) (by decide +kernel) rfl ?_
  refine W.aloadN d11_0 rfl rfl ?_
  refine W.callV (as := []) 0 [] d11_1 (wq hw 84 rfl) (wq hw 85 rfl) (wq hw 87 rfl) (wq hw 87 rfl) (wq hw 86 rfl) (wq hw 3 rfl) (wq hw 88 rfl) (Hp.exa mp1) (c24_isLatin1 hw hs (mp1 := mp1)) (by decide) pd__Z rfl rfl rfl rfl (by decide) (fun v D' h => ?_)
  obtain ⟨rfl, rfl⟩ := h
  show W _ _ _ _ _ _ _ _ _ _ _ _ 4 _ [(vi 1)]
  refine W.ifN d11_4 (n_eq (by decide)) ?_
  refine W.aloadN d11_7 rfl rfl ?_
  refine W.getf d11_8 (wq hw 20 rfl) Via.refl mp1 m0 ?_
  refine W.callS (as := [(vr p2)]) 0 [] d11_11 (wq hw 89 rfl) (wq hw 90 rfl) (wq hw 91 rfl) (wq hw 92 rfl) (c143_toChars hw hs (hx1 := hx1) (hx2 := hx2) (mp1 := mp2)) (by decide) pd__B__C rfl rfl rfl rfl (by decide) (fun v D' h => ?_)
  obtain ⟨a1, rfl, rfl⟩ := h
  show W _ _ _ _ _ _ _ _ _ _ _ _ 14 _ [(vr a1)]
  refine W.goto 24 d11_14 (by decide) ?_
  exact W.areturn d11_24 rfl rfl rfl (by decide) ⟨a1, rfl, rfl⟩
theorem c147_ensureCapacityInternal {Z a0} (hw : HW a0 Z) (hs : SF Z) {p1 p2 : Addr} {f_p1_2 f_p1_3 : Value} {vs_p2 : List Value} (hvs_p2 : vs_p2.length = 2) {w_p1 : Bool} {w_p2 : Bool} {ad_p2 : String} {F : List Ent} (mp1 : (p1, w_p1, oStringBuilder (vr p2) (vi 0) f_p1_2 f_p1_3) ∈ F) (mp2 : (p2, w_p2, ar ad_p2 .byte vs_p2) ∈ F) : Con Z EL y21 y21b 3 y21r (rmm 0 0 0 0) [(vr p1), (vi 1)] (F) (fun v D' => (v = none ∧ F = D')) := by
  refine Con.of (ls := #[rv p1, iv 1, uu]) (by decide +kernel) rfl ?_
  refine W.aloadN d28_0 rfl rfl ?_
  refine W.getf d28_1 (wq hw 75 rfl) Via.refl mp1 m0 ?_
  refine W.alen (2) d28_4 mp2 (by rw [hvs_p2]; rfl) ?_
  refine W.aloadN d28_5 rfl rfl ?_
  refine W.getf d28_6 (wq hw 77 rfl) Via.refl mp1 m1 ?_
  refine W.ishrK (2 : Int32) d28_9 (by decide) ?_
  refine W.istoreN (ls' := #[rv p1, iv 1, iv 2]) d28_10 rfl ?_
  refine W.iloadN d28_11 rfl ?_
  refine W.iloadN d28_12 rfl ?_
  refine W.isubK (-1 : Int32) d28_13 (by decide) ?_
  refine W.ifY 38 d28_14 (y_le (by decide)) (by decide) ?_
  exact W.return_ d28_38 rfl (by decide) ⟨rfl, rfl⟩
theorem c146_append {Z a0} (hw : HW a0 Z) (hs : SF Z) {p1 p2 : Addr} {x1 : Int32} (hx1 : 0 ≤ x1.toInt ∧ x1.toInt ≤ 255) {f_p1_3 e_p2_1 : Value} {ad_p2 : String} {F : List Ent} : Con Z EL y24 y24b 2 y24r (rmm 1 0 0 14) [(vr p1), (vi x1)] ((p1, true, oStringBuilder (vr p2) (vi 0) (vi 0) f_p1_3) :: (p2, true, ar ad_p2 .byte [(vi 0), e_p2_1]) :: F) (fun v D' => (v = some (vr p1) ∧ (p1, true, oStringBuilder (vr p2) (vi 0) (vi 1) f_p1_3) :: (p2, true, ar ad_p2 .byte [(vi x1.toInt8.toInt32), e_p2_1]) :: F = D')) := by
  refine Con.of (ls := #[rv p1, iv x1]) (by decide +kernel) rfl ?_
  refine W.aloadN d27_0 rfl rfl ?_
  refine W.aloadN d27_1 rfl rfl ?_
  refine W.getf d27_2 (wq hw 122 rfl) Via.refl m0 m2 ?_
  refine W.iconst (1) d27_5 (by decide) ?_
  refine W.iaddK (1 : Int32) d27_6 (by decide) ?_
  refine W.callP (as := [(vi 1)]) 0 [] d27_7 (wq hw 162 rfl) (wq hw 163 rfl) (wq hw 165 rfl) (wq hw 164 rfl) (wq hw 71 rfl) (wq hw 166 rfl) (Hp.exa m0) (c147_ensureCapacityInternal hw hs (hvs_p2 := rfl) (mp1 := m0) (mp2 := m1)) (by decide) pd_I_V rfl rfl rfl rfl (by decide) (fun v D' h => ?_)
  obtain ⟨rfl, rfl⟩ := h
  show W _ _ _ _ _ _ _ _ _ _ _ _ 10 _ []
  refine W.aloadN d27_10 rfl rfl ?_
  refine W.callV (as := []) 0 [] d27_11 (wq hw 167 rfl) (wq hw 125 rfl) (wq hw 127 rfl) (wq hw 127 rfl) (wq hw 126 rfl) (wq hw 71 rfl) (wq hw 128 rfl) (Hp.exa m0) (c30_isLatin1 hw hs (mp1 := m0)) (by decide) pd__Z rfl rfl rfl rfl (by decide) (fun v D' h => ?_)
  obtain ⟨rfl, rfl⟩ := h
  show W _ _ _ _ _ _ _ _ _ _ _ _ 14 _ [(vi 1)]
  refine W.ifN d27_14 (n_eq (by decide)) ?_
  refine W.iloadN d27_17 rfl ?_
  refine W.callS (as := [(vi x1)]) 0 [] d27_18 (wq hw 168 rfl) (wq hw 169 rfl) (wq hw 91 rfl) (wq hw 170 rfl) (c31_canEncode hw hs (hx1 := hx1)) (by decide) pd_C_Z rfl rfl rfl rfl (by decide) (fun v D' h => ?_)
  obtain ⟨rfl, rfl⟩ := h
  show W _ _ _ _ _ _ _ _ _ _ _ _ 21 _ [(vi 1)]
  refine W.ifN d27_21 (n_eq (by decide)) ?_
  refine W.aloadN d27_24 rfl rfl ?_
  refine W.getf d27_25 (wq hw 75 rfl) Via.refl m0 m0 ?_
  refine W.aloadN d27_28 rfl rfl ?_
  refine W.dup d27_29 rfl ?_
  refine W.getf d27_30 (wq hw 122 rfl) Via.refl m0 m2 ?_
  refine W.dupX1 d27_33 rfl rfl ?_
  refine W.iconst (1) d27_34 (by decide) ?_
  refine W.iaddK (1 : Int32) d27_35 (by decide) ?_
  refine W.putf (D' := (p1, true, oStringBuilder (vr p2) (vi 0) (vi 1) f_p1_3) :: (p2, true, ar ad_p2 .byte [(vi 0), e_p2_1]) :: F) 0 2 d27_36 (wq hw 122 rfl) Via.refl rfl rfl (Or.inl (wq hw 123 rfl)) (wq hw 51 rfl) pfI rfl rfl rfl ?_
  refine W.iloadN d27_39 rfl ?_
  refine W.i2b d27_40 ?_
  refine W.bastore (D' := (p1, true, oStringBuilder (vr p2) (vi 0) (vi 1) f_p1_3) :: (p2, true, ar ad_p2 .byte [(vi x1.toInt8.toInt32), e_p2_1]) :: F) 1 0 d27_41 rfl ix0 (Nat.le_of_ble_eq_true rfl) (z_narB (by have := a_i2b x1; omega)) rfl ?_
  refine W.goto 75 d27_42 (by decide) ?_
  refine W.aloadN d27_75 rfl rfl ?_
  exact W.areturn d27_76 rfl rfl rfl (by decide) ⟨rfl, rfl⟩
theorem c145_append {Z a0} (hw : HW a0 Z) (hs : SF Z) {p1 p2 : Addr} {x1 : Int32} (hx1 : 0 ≤ x1.toInt ∧ x1.toInt ≤ 255) {f_p1_3 e_p2_1 : Value} {ad_p2 : String} {F : List Ent} : Con Z EL y25 y25b 2 y25r (rmm 2 0 0 27) [(vr p1), (vi x1)] ((p1, true, oStringBuilder (vr p2) (vi 0) (vi 0) f_p1_3) :: (p2, true, ar ad_p2 .byte [(vi 0), e_p2_1]) :: F) (fun v D' => (v = some (vr p1) ∧ (p1, true, oStringBuilder (vr p2) (vi 0) (vi 1) f_p1_3) :: (p2, true, ar ad_p2 .byte [(vi x1.toInt8.toInt32), e_p2_1]) :: F = D')) := by
  refine Con.of (ls := #[rv p1, iv x1]) (by decide +kernel) rfl ?_
  refine W.aloadN d26_0 rfl rfl ?_
  refine W.iloadN d26_1 rfl ?_
  refine W.callUp (as := [(vi x1)]) 0 [] d26_2 (wq hw 158 rfl) (same_self (by rfl) (by decide) (wq hw 159 rfl) (wq hw 110 rfl) (wq hw 111 rfl)) (wq hw 159 rfl) (wq hw 120 rfl) (by decide) (wq hw 71 rfl) (wq hw 161 rfl) (Hp.ins m0) (c146_append hw hs (hx1 := hx1)) pd_C_Ljava_lang_AbstractStringBuilder_ rfl rfl rfl rfl (by decide) (fun v D' h => ?_)
  obtain ⟨rfl, rfl⟩ := h
  show W _ _ _ _ _ _ _ _ _ _ _ _ 5 _ [(vr p1)]
  refine W.popv d26_5 rfl ?_
  refine W.aloadN d26_6 rfl rfl ?_
  exact W.areturn d26_7 rfl rfl rfl (by decide) ⟨rfl, rfl⟩
theorem c150_ensureCapacityInternal {Z a0} (hw : HW a0 Z) (hs : SF Z) {p1 p2 : Addr} {f_p1_2 f_p1_3 : Value} {vs_p2 : List Value} (hvs_p2 : vs_p2.length = 2) {w_p1 : Bool} {w_p2 : Bool} {ad_p2 : String} {F : List Ent} (mp1 : (p1, w_p1, oStringBuilder (vr p2) (vi 0) f_p1_2 f_p1_3) ∈ F) (mp2 : (p2, w_p2, ar ad_p2 .byte vs_p2) ∈ F) : Con Z EL y21 y21b 3 y21r (rmm 0 0 0 0) [(vr p1), (vi 2)] (F) (fun v D' => (v = none ∧ F = D')) := by
  refine Con.of (ls := #[rv p1, iv 2, uu]) (by decide +kernel) rfl ?_
  refine W.aloadN d28_0 rfl rfl ?_
  refine W.getf d28_1 (wq hw 75 rfl) Via.refl mp1 m0 ?_
  refine W.alen (2) d28_4 mp2 (by rw [hvs_p2]; rfl) ?_
  refine W.aloadN d28_5 rfl rfl ?_
  refine W.getf d28_6 (wq hw 77 rfl) Via.refl mp1 m1 ?_
  refine W.ishrK (2 : Int32) d28_9 (by decide) ?_
  refine W.istoreN (ls' := #[rv p1, iv 2, iv 2]) d28_10 rfl ?_
  refine W.iloadN d28_11 rfl ?_
  refine W.iloadN d28_12 rfl ?_
  refine W.isubK (0 : Int32) d28_13 (by decide) ?_
  refine W.ifY 38 d28_14 (y_le (by decide)) (by decide) ?_
  exact W.return_ d28_38 rfl (by decide) ⟨rfl, rfl⟩
theorem c149_append {Z a0} (hw : HW a0 Z) (hs : SF Z) {p1 p2 : Addr} {x1 : Int32} (hx1 : 0 ≤ x1.toInt ∧ x1.toInt ≤ 255) {f_p1_3 e_p2_0 : Value} {ad_p2 : String} {F : List Ent} : Con Z EL y24 y24b 2 y24r (rmm 1 0 0 14) [(vr p1), (vi x1)] ((p1, true, oStringBuilder (vr p2) (vi 0) (vi 1) f_p1_3) :: (p2, true, ar ad_p2 .byte [e_p2_0, (vi 0)]) :: F) (fun v D' => (v = some (vr p1) ∧ (p1, true, oStringBuilder (vr p2) (vi 0) (vi 2) f_p1_3) :: (p2, true, ar ad_p2 .byte [e_p2_0, (vi x1.toInt8.toInt32)]) :: F = D')) := by
  refine Con.of (ls := #[rv p1, iv x1]) (by decide +kernel) rfl ?_
  refine W.aloadN d27_0 rfl rfl ?_
  refine W.aloadN d27_1 rfl rfl ?_
  refine W.getf d27_2 (wq hw 122 rfl) Via.refl m0 m2 ?_
  refine W.iconst (1) d27_5 (by decide) ?_
  refine W.iaddK (2 : Int32) d27_6 (by decide) ?_
  refine W.callP (as := [(vi 2)]) 0 [] d27_7 (wq hw 162 rfl) (wq hw 163 rfl) (wq hw 165 rfl) (wq hw 164 rfl) (wq hw 71 rfl) (wq hw 166 rfl) (Hp.exa m0) (c150_ensureCapacityInternal hw hs (hvs_p2 := rfl) (mp1 := m0) (mp2 := m1)) (by decide) pd_I_V rfl rfl rfl rfl (by decide) (fun v D' h => ?_)
  obtain ⟨rfl, rfl⟩ := h
  show W _ _ _ _ _ _ _ _ _ _ _ _ 10 _ []
  refine W.aloadN d27_10 rfl rfl ?_
  refine W.callV (as := []) 0 [] d27_11 (wq hw 167 rfl) (wq hw 125 rfl) (wq hw 127 rfl) (wq hw 127 rfl) (wq hw 126 rfl) (wq hw 71 rfl) (wq hw 128 rfl) (Hp.exa m0) (c30_isLatin1 hw hs (mp1 := m0)) (by decide) pd__Z rfl rfl rfl rfl (by decide) (fun v D' h => ?_)
  obtain ⟨rfl, rfl⟩ := h
  show W _ _ _ _ _ _ _ _ _ _ _ _ 14 _ [(vi 1)]
  refine W.ifN d27_14 (n_eq (by decide)) ?_
  refine W.iloadN d27_17 rfl ?_
  refine W.callS (as := [(vi x1)]) 0 [] d27_18 (wq hw 168 rfl) (wq hw 169 rfl) (wq hw 91 rfl) (wq hw 170 rfl) (c31_canEncode hw hs (hx1 := hx1)) (by decide) pd_C_Z rfl rfl rfl rfl (by decide) (fun v D' h => ?_)
  obtain ⟨rfl, rfl⟩ := h
  show W _ _ _ _ _ _ _ _ _ _ _ _ 21 _ [(vi 1)]
  refine W.ifN d27_21 (n_eq (by decide)) ?_
  refine W.aloadN d27_24 rfl rfl ?_
  refine W.getf d27_25 (wq hw 75 rfl) Via.refl m0 m0 ?_
  refine W.aloadN d27_28 rfl rfl ?_
  refine W.dup d27_29 rfl ?_
  refine W.getf d27_30 (wq hw 122 rfl) Via.refl m0 m2 ?_
  refine W.dupX1 d27_33 rfl rfl ?_
  refine W.iconst (1) d27_34 (by decide) ?_
  refine W.iaddK (2 : Int32) d27_35 (by decide) ?_
  refine W.putf (D' := (p1, true, oStringBuilder (vr p2) (vi 0) (vi 2) f_p1_3) :: (p2, true, ar ad_p2 .byte [e_p2_0, (vi 0)]) :: F) 0 2 d27_36 (wq hw 122 rfl) Via.refl rfl rfl (Or.inl (wq hw 123 rfl)) (wq hw 51 rfl) pfI rfl rfl rfl ?_
  refine W.iloadN d27_39 rfl ?_
  refine W.i2b d27_40 ?_
  refine W.bastore (D' := (p1, true, oStringBuilder (vr p2) (vi 0) (vi 2) f_p1_3) :: (p2, true, ar ad_p2 .byte [e_p2_0, (vi x1.toInt8.toInt32)]) :: F) 1 1 d27_41 rfl ix1 (Nat.le_of_ble_eq_true rfl) (z_narB (by have := a_i2b x1; omega)) rfl ?_
  refine W.goto 75 d27_42 (by decide) ?_
  refine W.aloadN d27_75 rfl rfl ?_
  exact W.areturn d27_76 rfl rfl rfl (by decide) ⟨rfl, rfl⟩
theorem c148_append {Z a0} (hw : HW a0 Z) (hs : SF Z) {p1 p2 : Addr} {x1 : Int32} (hx1 : 0 ≤ x1.toInt ∧ x1.toInt ≤ 255) {f_p1_3 e_p2_0 : Value} {ad_p2 : String} {F : List Ent} : Con Z EL y25 y25b 2 y25r (rmm 2 0 0 27) [(vr p1), (vi x1)] ((p1, true, oStringBuilder (vr p2) (vi 0) (vi 1) f_p1_3) :: (p2, true, ar ad_p2 .byte [e_p2_0, (vi 0)]) :: F) (fun v D' => (v = some (vr p1) ∧ (p1, true, oStringBuilder (vr p2) (vi 0) (vi 2) f_p1_3) :: (p2, true, ar ad_p2 .byte [e_p2_0, (vi x1.toInt8.toInt32)]) :: F = D')) := by
  refine Con.of (ls := #[rv p1, iv x1]) (by decide +kernel) rfl ?_
  refine W.aloadN d26_0 rfl rfl ?_
  refine W.iloadN d26_1 rfl ?_
  refine W.callUp (as := [(vi x1)]) 0 [] d26_2 (wq hw 158 rfl) (same_self (by rfl) (by decide) (wq hw 159 rfl) (wq hw 110 rfl) (wq hw 111 rfl)) (wq hw 159 rfl) (wq hw 120 rfl) (by decide) (wq hw 71 rfl) (wq hw 161 rfl) (Hp.ins m0) (c149_append hw hs (hx1 := hx1)) pd_C_Ljava_lang_AbstractStringBuilder_ rfl rfl rfl rfl (by decide) (fun v D' h => ?_)
  obtain ⟨rfl, rfl⟩ := h
  show W _ _ _ _ _ _ _ _ _ _ _ _ 5 _ [(vr p1)]
  refine W.popv d26_5 rfl ?_
  refine W.aloadN d26_6 rfl rfl ?_
  exact W.areturn d26_7 rfl rfl rfl (by decide) ⟨rfl, rfl⟩
theorem c154_copyOfRange {Z a0} (hw : HW a0 Z) (hs : SF Z) {p1 : Addr} {x1 : Int32} (hx1 : 0 ≤ x1.toInt ∧ x1.toInt ≤ 255) {x2 : Int32} (hx2 : 0 ≤ x2.toInt ∧ x2.toInt ≤ 255) {w_p1 : Bool} {F : List Ent} (mp1 : (p1, w_p1, ar "[B" .byte [(vi x1.toInt8.toInt32), (vi x2.toInt8.toInt32)]) ∈ F) : Con Z EL y29 y29b 3 y29r (rmm 1 1 2 14) [(vr p1), (vi 0), (vi 2)] (F) (fun v D' => (∃ a1 : Addr, v = some (vr a1) ∧ (a1, true, ar "[B" .byte [(vi x1.toInt8.toInt32), (vi x2.toInt8.toInt32)]) :: F = D')) := by
  refine Con.of (ls := #[rv p1, iv 0, iv 2]) (by decide +kernel) rfl ?_
  refine W.iloadN d22_0 rfl ?_
  refine W.ifN d22_1 (n_ne (by decide)) ?_
  refine W.iloadN d22_4 rfl ?_
  refine W.aloadN d22_5 rfl rfl ?_
  refine W.alen (2) d22_6 mp1 rfl ?_
  refine W.icmpY 17 d22_7 (y_eq (by decide)) (by decide) ?_
  refine W.aloadN d22_17 rfl rfl ?_
  refine W.clone 0 2 d22_18 (wq hw 133 rfl) (wq hw 134 rfl) (wq hw 138 rfl) (wq hw 136 rfl) (wq hw 137 rfl) (wq hw 139 rfl) mp1 (by decide) rfl rfl rfl (by decide) (fun a1 => ?_)
  show W _ _ _ _ _ _ _ _ _ _ _ _ 21 _ [(vr a1)]
  refine W.castY d22_21 (wq hw 140 rfl) (Hp.insA m0 (by decide)) ?_
  exact W.areturn d22_24 rfl rfl rfl (by decide) ⟨a1, rfl, rfl⟩
theorem c153_init {Z a0} (hw : HW a0 Z) (hs : SF Z) {p1 p2 p3 : Addr} {x1 : Int32} (hx1 : 0 ≤ x1.toInt ∧ x1.toInt ≤ 255) {x2 : Int32} (hx2 : 0 ≤ x2.toInt ∧ x2.toInt ≤ 255) {f_p2_3 : Value} {w_p2 : Bool} {w_p3 : Bool} {F : List Ent} (mp2 : (p2, w_p2, oStringBuilder (vr p3) (vi 0) (vi 2) f_p2_3) ∈ F) (mp3 : (p3, w_p3, ar "[B" .byte [(vi x1.toInt8.toInt32), (vi x2.toInt8.toInt32)]) ∈ F) : Con Z EL y30 y30b 5 y30r (rmm 2 1 2 29) [(vr p1), (vr p2), .null] ((p1, true, oString .null (vi 0)) :: F) (fun v D' => (∃ a1 : Addr, v = none ∧ (a1, true, ar "[B" .byte [(vi x1.toInt8.toInt32), (vi x2.toInt8.toInt32)]) :: (p1, true, oString (vr a1) (vi 0)) :: F = D')) := by
  refine Con.of (ls := #[rv p1, rv p2, .val .null, uu, uu]) (by decide +kernel) rfl ?_
  refine W.aloadN d17_0 rfl rfl ?_
  refine W.initO 0 d17_1 (wq hw 11 rfl) (wq hw 12 rfl) (wq hw 13 rfl) rfl rfl (by decide) ?_
  refine W.aloadN d17_4 rfl rfl ?_
  refine W.callV (as := []) 0 [] d17_5 (wq hw 108 rfl) (wq hw 109 rfl) (wq hw 111 rfl) (wq hw 111 rfl) (wq hw 110 rfl) (wq hw 71 rfl) (wq hw 112 rfl) (Hp.exa (mS mp2)) (c41_getValue hw hs (mp1 := (mS mp2))) (by decide) pd___B rfl rfl rfl rfl (by decide) (fun v D' h => ?_)
  obtain ⟨rfl, rfl⟩ := h
  show W _ _ _ _ _ _ _ _ _ _ _ _ 8 _ [(vr p3)]
  refine W.astoreN (ls' := #[rv p1, rv p2, .val .null, rv p3, uu]) d17_8 rfl rfl ?_
  refine W.aloadN d17_9 rfl rfl ?_
  refine W.callVN (as := []) 0 [] d17_10 (wq hw 113 rfl) (wq hw 114 rfl) (by rfl) (wq hw 110 rfl) (wq hw 111 rfl) (wq hw 116 rfl) (wq hw 117 rfl) (wq hw 52 rfl) (wq hw 118 rfl) (Hp.exa (mS mp2)) (c42_length hw hs (mp1 := (mS mp2))) (by decide) pd__I rfl rfl rfl rfl (by decide) (fun v D' h => ?_)
  obtain ⟨rfl, rfl⟩ := h
  show W _ _ _ _ _ _ _ _ _ _ _ _ 13 _ [(vi 2)]
  refine W.istore (ls' := #[rv p1, rv p2, .val .null, rv p3, iv 2]) d17_13 rfl ?_
  refine W.aloadN d17_15 rfl rfl ?_
  refine W.callV (as := []) 0 [] d17_16 (wq hw 124 rfl) (wq hw 125 rfl) (wq hw 127 rfl) (wq hw 127 rfl) (wq hw 126 rfl) (wq hw 71 rfl) (wq hw 128 rfl) (Hp.exa (mS mp2)) (c30_isLatin1 hw hs (mp1 := (mS mp2))) (by decide) pd__Z rfl rfl rfl rfl (by decide) (fun v D' h => ?_)
  obtain ⟨rfl, rfl⟩ := h
  show W _ _ _ _ _ _ _ _ _ _ _ _ 19 _ [(vi 1)]
  refine W.ifN d17_19 (n_eq (by decide)) ?_
  refine W.aloadN d17_22 rfl rfl ?_
  refine W.iconst (0) d17_23 (by decide) ?_
  refine W.putf (D' := (p1, true, oString .null (vi 0)) :: F) 0 1 d17_24 (wq hw 21 rfl) Via.refl rfl rfl (Or.inr ⟨(wq hw 17 rfl), rfl, rfl⟩) (wq hw 2 rfl) pfB (nw_byte (by decide)) (ft_byte (by decide)) rfl ?_
  refine W.aloadN d17_27 rfl rfl ?_
  refine W.aloadN d17_28 rfl rfl ?_
  refine W.iconst (0) d17_29 (by decide) ?_
  refine W.iload d17_30 rfl ?_
  refine W.callS (as := [(vr p3), (vi 0), (vi 2)]) 1 [(vr p1)] d17_32 (wq hw 129 rfl) (wq hw 130 rfl) (wq hw 131 rfl) (wq hw 132 rfl) (c154_copyOfRange hw hs (hx1 := hx1) (hx2 := hx2) (mp1 := (mS mp3))) (by decide) pd__BII__B rfl rfl rfl rfl (by decide) (fun v D' h => ?_)
  obtain ⟨a1, rfl, rfl⟩ := h
  show W _ _ _ _ _ _ _ _ _ _ _ _ 35 _ [(vr a1), (vr p1)]
  refine W.putf (D' := (a1, true, ar "[B" .byte [(vi x1.toInt8.toInt32), (vi x2.toInt8.toInt32)]) :: (p1, true, oString (vr a1) (vi 0)) :: F) 1 0 d17_35 (wq hw 20 rfl) Via.refl rfl rfl (Or.inr ⟨(wq hw 16 rfl), rfl, rfl⟩) (wq hw 2 rfl) pf_B rfl rfl rfl ?_
  refine W.goto 97 d17_38 (by decide) ?_
  exact W.return_ d17_97 rfl (by decide) ⟨a1, rfl, rfl⟩
theorem c152_init {Z a0} (hw : HW a0 Z) (hs : SF Z) {p1 p2 p3 : Addr} {x1 : Int32} (hx1 : 0 ≤ x1.toInt ∧ x1.toInt ≤ 255) {x2 : Int32} (hx2 : 0 ≤ x2.toInt ∧ x2.toInt ≤ 255) {f_p2_3 : Value} {w_p2 : Bool} {w_p3 : Bool} {F : List Ent} (mp2 : (p2, w_p2, oStringBuilder (vr p3) (vi 0) (vi 2) f_p2_3) ∈ F) (mp3 : (p3, w_p3, ar "[B" .byte [(vi x1.toInt8.toInt32), (vi x2.toInt8.toInt32)]) ∈ F) : Con Z EL y31 y31b 2 y31r (rmm 3 1 2 45) [(vr p1), (vr p2)] ((p1, true, oString .null (vi 0)) :: F) (fun v D' => (∃ a1 : Addr, v = none ∧ (a1, true, ar "[B" .byte [(vi x1.toInt8.toInt32), (vi x2.toInt8.toInt32)]) :: (p1, true, oString (vr a1) (vi 0)) :: F = D')) := by
  refine Con.of (ls := #[rv p1, rv p2]) (by decide +kernel) rfl ?_
  refine W.aloadN d16_0 rfl rfl ?_
  refine W.aloadN d16_1 rfl rfl ?_
  refine W.aconstNull d16_2 ?_
  refine W.callI (as := [(vr p2), .null]) 0 [] d16_3 rfl (wq hw 105 rfl) (wq hw 106 rfl) (wq hw 3 rfl) (wq hw 107 rfl) (c153_init hw hs (hx1 := hx1) (hx2 := hx2) (mp2 := mp2) (mp3 := mp3)) (by decide) pd_Ljava_lang_AbstractStringBuilder_Ljava_lang_Void__V rfl rfl rfl rfl (by decide) (fun v D' h => ?_)
  obtain ⟨a1, rfl, rfl⟩ := h
  show W _ _ _ _ _ _ _ _ _ _ _ _ 6 _ []
  exact W.return_ d16_6 rfl (by decide) ⟨a1, rfl, rfl⟩
theorem c151_toString {Z a0} (hw : HW a0 Z) (hs : SF Z) {p1 p2 : Addr} {x1 : Int32} (hx1 : 0 ≤ x1.toInt ∧ x1.toInt ≤ 255) {x2 : Int32} (hx2 : 0 ≤ x2.toInt ∧ x2.toInt ≤ 255) {f_p1_3 : Value} {w_p1 : Bool} {w_p2 : Bool} {F : List Ent} (mp1 : (p1, w_p1, oStringBuilder (vr p2) (vi 0) (vi 2) f_p1_3) ∈ F) (mp2 : (p2, w_p2, ar "[B" .byte [(vi x1.toInt8.toInt32), (vi x2.toInt8.toInt32)]) ∈ F) : Con Z EL y32 y32b 1 y32r (rmm 4 2 6 59) [(vr p1)] (F) (fun v D' => (∃ a1 a2 : Addr, v = some (vr a1) ∧ (a2, true, ar "[B" .byte [(vi x1.toInt8.toInt32), (vi x2.toInt8.toInt32)]) :: (a1, true, oString (vr a2) (vi 0)) :: F = D')) := by
  refine Con.of (ls := #[rv p1]) (by decide +kernel) rfl ?_
  refine W.new d15_0 (wq hw 101 rfl) (wq hw 2 rfl) (wq hw 3 rfl) (laString hw) (by decide) (by decide) (fun a1 => ?_)
  show W _ _ _ _ _ _ _ _ _ _ _ _ 3 _ [(vr a1)]
  refine W.dup d15_3 rfl ?_
  refine W.aloadN d15_4 rfl rfl ?_
  refine W.callI (as := [(vr p1)]) 1 [(vr a1)] d15_5 rfl (wq hw 102 rfl) (wq hw 103 rfl) (wq hw 3 rfl) (wq hw 104 rfl) (c152_init hw hs (hx1 := hx1) (hx2 := hx2) (mp2 := mp1) (mp3 := mp2)) (by decide) pd_Ljava_lang_StringBuilder__V rfl rfl rfl rfl (by decide) (fun v D' h => ?_)
  obtain ⟨a2, rfl, rfl⟩ := h
  show W _ _ _ _ _ _ _ _ _ _ _ _ 8 _ [(vr a1)]
  exact W.areturn d15_8 rfl rfl rfl (by decide) ⟨a1, a2, rfl, rfl⟩
theorem c138_lowerCase {Z a0} (hw : HW a0 Z) (hs : SF Z) {p1 p2 p3 : Addr} {x2 : Int32} (hx2 : 0 ≤ x2.toInt ∧ x2.toInt ≤ 255) {x3 : Int32} (hx3 : 0 ≤ x3.toInt ∧ x3.toInt ≤ 255) {f_p1_0 f_p1_2 f_p1_3 : Value} {w_p1 : Bool} {w_p2 : Bool} {w_p3 : Bool} {ad_p3 : String} {F : List Ent} (mp1 : (p1, w_p1, oJdqlLexer_Token f_p1_0 (vr p2) f_p1_2 f_p1_3) ∈ F) (mp2 : (p2, w_p2, oString (vr p3) (vi 0)) ∈ F) (mp3 : (p3, w_p3, ar ad_p3 .byte [(vi x2.toInt8.toInt32), (vi x3.toInt8.toInt32)]) ∈ F) : Con Z EL y33 y33b 6 y33r (rmm 5 5 14 71) [(vr p1)] (F) (fun v D' => (∃ a8 a9 : Addr, v = some (vr a8) ∧ (a9, true, ar "[B" .byte [(vi (lc x2).toInt8.toInt32), (vi (lc x3).toInt8.toInt32)]) :: (a8, true, oString (vr a9) (vi 0)) :: F = D')) := by
  refine Con.of (ls := #[rv p1, uu, uu, uu, uu, uu]) (by decide +kernel) rfl ?_
  refine W.new d6_0 (wq hw 50 rfl) (wq hw 51 rfl) (wq hw 52 rfl) (laStringBuilder hw) (by decide) (by decide) (fun a1 => ?_)
  show W _ _ _ _ _ _ _ _ _ _ _ _ 3 _ [(vr a1)]
  refine W.dup d6_3 rfl ?_
  refine W.aloadN d6_4 rfl rfl ?_
  refine W.getf d6_5 (wq hw 39 rfl) Via.refl (mS mp1) m1 ?_
  refine W.callV (as := []) 2 [(vr a1), (vr a1)] d6_8 (wq hw 53 rfl) (wq hw 54 rfl) (wq hw 56 rfl) (wq hw 56 rfl) (wq hw 55 rfl) (wq hw 3 rfl) (wq hw 57 rfl) (Hp.exa (mS mp2)) (c139_length hw hs (hvs_p2 := rfl) (mp1 := (mS mp2)) (mp2 := (mS mp3))) (by decide) pd__I rfl rfl rfl rfl (by decide) (fun v D' h => ?_)
  obtain ⟨rfl, rfl⟩ := h
  show W _ _ _ _ _ _ _ _ _ _ _ _ 11 _ [(vi 2), (vr a1), (vr a1)]
  refine W.callI (as := [(vi 2)]) 1 [(vr a1)] d6_11 rfl (wq hw 64 rfl) (wq hw 65 rfl) (wq hw 52 rfl) (wq hw 66 rfl) (c140_init hw hs) (by decide) pd_I_V rfl rfl rfl rfl (by decide) (fun v D' h => ?_)
  obtain ⟨a2, rfl, rfl⟩ := h
  show W _ _ _ _ _ _ _ _ _ _ _ _ 14 _ [(vr a1)]
  refine W.astoreN (ls' := #[rv p1, rv a1, uu, uu, uu, uu]) d6_14 rfl rfl ?_
  refine W.aloadN d6_15 rfl rfl ?_
  refine W.getf d6_16 (wq hw 39 rfl) Via.refl (mS (mS mp1)) m1 ?_
  refine W.callV (as := []) 0 [] d6_19 (wq hw 79 rfl) (wq hw 80 rfl) (wq hw 82 rfl) (wq hw 82 rfl) (wq hw 81 rfl) (wq hw 3 rfl) (wq hw 83 rfl) (Hp.exa (mS (mS mp2))) (c142_toCharArray hw hs (hx1 := hx2) (hx2 := hx3) (mp1 := (mS (mS mp2))) (mp2 := (mS (mS mp3)))) (by decide) pd___C rfl rfl rfl rfl (by decide) (fun v D' h => ?_)
  obtain ⟨a3, rfl, rfl⟩ := h
  show W _ _ _ _ _ _ _ _ _ _ _ _ 22 _ [(vr a3)]
  refine W.astoreN (ls' := #[rv p1, rv a1, rv a3, uu, uu, uu]) d6_22 rfl rfl ?_
  refine W.aloadN d6_23 rfl rfl ?_
  refine W.alen (2) d6_24 m0 rfl ?_
  refine W.istoreN (ls' := #[rv p1, rv a1, rv a3, iv 2, uu, uu]) d6_25 rfl ?_
  refine W.iconst (0) d6_26 (by decide) ?_
  refine W.istore (ls' := #[rv p1, rv a1, rv a3, iv 2, iv 0, uu]) d6_27 rfl ?_
  refine W.iload d6_29 rfl ?_
  refine W.iloadN d6_31 rfl ?_
  refine W.icmpN d6_32 (n_ge (by decide)) ?_
  refine W.aloadN d6_35 rfl rfl ?_
  refine W.iload d6_36 rfl ?_
  refine W.caload 0 d6_38 m0 ix0 rfl ?_
  refine W.istore (ls' := #[rv p1, rv a1, rv a3, iv 2, iv 0, iv x2]) d6_39 rfl ?_
  refine W.aloadN d6_41 rfl rfl ?_
  have K5 : W Z EL (rmm 5 5 14 71) "com/example/rochester/rochester/JdqlLexer$Token" "lowerCase" prog_12_method_5_code 6 (Option.some (Jvm.ClassFile.FieldType.object "java/lang/String")) (fun v D' => (∃ a8 a9 : Addr, v = some (vr a8) ∧ (a9, true, ar "[B" .byte [(vi (lc x2).toInt8.toInt32), (vi (lc x3).toInt8.toInt32)]) :: (a8, true, oString (vr a9) (vi 0)) :: F = D')) ((a3, true, ar "[C" .char [(vi x2), (vi x3)]) :: (a2, true, ar "[B" .byte [(vi 0), (vi 0)]) :: (a1, true, oStringBuilder (vr a2) (vi 0) (vi 0) (vi 0)) :: F) 3 8 70 #[rv p1, rv a1, rv a3, iv 2, iv 0, iv x2] [(vi (lc x2)), (vr a1)] := by
   refine W.front 1 (D' := (a2, true, ar "[B" .byte [(vi 0), (vi 0)]) :: (a3, true, ar "[C" .char [(vi x2), (vi x3)]) :: (a1, true, oStringBuilder (vr a2) (vi 0) (vi 0) (vi 0)) :: F) rfl rfl ?_
   refine W.front 2 (D' := (a1, true, oStringBuilder (vr a2) (vi 0) (vi 0) (vi 0)) :: (a2, true, ar "[B" .byte [(vi 0), (vi 0)]) :: (a3, true, ar "[C" .char [(vi x2), (vi x3)]) :: F) rfl rfl ?_
   refine W.callV (as := [(vi (lc x2))]) 0 [] d6_70 (wq hw 153 rfl) (wq hw 154 rfl) (wq hw 156 rfl) (wq hw 156 rfl) (wq hw 155 rfl) (wq hw 52 rfl) (wq hw 157 rfl) (Hp.exa m0) (c145_append hw hs (hx1 := (by have := a_lc x2; omega))) (by decide) pd_C_Ljava_lang_StringBuilder_ rfl rfl rfl rfl (by decide) (fun v D' h => ?_)
   obtain ⟨rfl, rfl⟩ := h
   show W _ _ _ _ _ _ _ _ _ _ _ _ 73 _ [(vr a1)]
   refine W.popv d6_73 rfl ?_
   refine W.iincK (ls' := #[rv p1, rv a1, rv a3, iv 2, iv 1, iv x2]) (1) (1 : Int32) d6_74 (by decide) rfl (by decide) rfl ?_
   refine W.goto 29 d6_77 (by decide) ?_
   refine W.iload d6_29 rfl ?_
   refine W.iloadN d6_31 rfl ?_
   refine W.icmpN d6_32 (n_ge (by decide)) ?_
   refine W.aloadN d6_35 rfl rfl ?_
   refine W.iload d6_36 rfl ?_
   refine W.caload 1 d6_38 m2 ix1 rfl ?_
   refine W.istore (ls' := #[rv p1, rv a1, rv a3, iv 2, iv 1, iv x3]) d6_39 rfl ?_
   refine W.aloadN d6_41 rfl rfl ?_
   have K7 : W Z EL (rmm 5 5 14 71) "com/example/rochester/rochester/JdqlLexer$Token" "lowerCase" prog_12_method_5_code 6 (Option.some (Jvm.ClassFile.FieldType.object "java/lang/String")) (fun v D' => (∃ a8 a9 : Addr, v = some (vr a8) ∧ (a9, true, ar "[B" .byte [(vi (lc x2).toInt8.toInt32), (vi (lc x3).toInt8.toInt32)]) :: (a8, true, oString (vr a9) (vi 0)) :: F = D')) ((a1, true, oStringBuilder (vr a2) (vi 0) (vi 1) (vi 0)) :: (a2, true, ar "[B" .byte [(vi (lc x2).toInt8.toInt32), (vi 0)]) :: (a3, true, ar "[C" .char [(vi x2), (vi x3)]) :: F) 3 8 70 #[rv p1, rv a1, rv a3, iv 2, iv 1, iv x3] [(vi (lc x3)), (vr a1)] := by
    refine W.callV (as := [(vi (lc x3))]) 0 [] d6_70 (wq hw 153 rfl) (wq hw 154 rfl) (wq hw 156 rfl) (wq hw 156 rfl) (wq hw 155 rfl) (wq hw 52 rfl) (wq hw 157 rfl) (Hp.exa m0) (c148_append hw hs (hx1 := (by have := a_lc x3; omega))) (by decide) pd_C_Ljava_lang_StringBuilder_ rfl rfl rfl rfl (by decide) (fun v D' h => ?_)
    obtain ⟨rfl, rfl⟩ := h
    show W _ _ _ _ _ _ _ _ _ _ _ _ 73 _ [(vr a1)]
    refine W.popv d6_73 rfl ?_
    refine W.iincK (ls' := #[rv p1, rv a1, rv a3, iv 2, iv 2, iv x3]) (1) (2 : Int32) d6_74 (by decide) rfl (by decide) rfl ?_
    refine W.goto 29 d6_77 (by decide) ?_
    refine W.iload d6_29 rfl ?_
    refine W.iloadN d6_31 rfl ?_
    refine W.icmpY 80 d6_32 (y_ge (by decide)) (by decide) ?_
    refine W.aloadN d6_80 rfl rfl ?_
    refine W.callV (as := []) 0 [] d6_81 (wq hw 96 rfl) (wq hw 97 rfl) (wq hw 99 rfl) (wq hw 99 rfl) (wq hw 98 rfl) (wq hw 52 rfl) (wq hw 100 rfl) (Hp.exa m0) (c151_toString hw hs (hx1 := (by have := a_lc x2; omega)) (hx2 := (by have := a_lc x3; omega)) (mp1 := m0) (mp2 := m1)) (by decide) pd__Ljava_lang_String_ rfl rfl rfl rfl (by decide) (fun v D' h => ?_)
    obtain ⟨a8, a9, rfl, rfl⟩ := h
    show W _ _ _ _ _ _ _ _ _ _ _ _ 84 _ [(vr a8)]
    refine W.dropAt 2 (D' := (a9, true, ar "[B" .byte [(vi (lc x2).toInt8.toInt32), (vi (lc x3).toInt8.toInt32)]) :: (a8, true, oString (vr a9) (vi 0)) :: (a2, true, ar "[B" .byte [(vi (lc x2).toInt8.toInt32), (vi (lc x3).toInt8.toInt32)]) :: (a3, true, ar "[C" .char [(vi x2), (vi x3)]) :: F) rfl ?_
    refine W.dropAt 2 (D' := (a9, true, ar "[B" .byte [(vi (lc x2).toInt8.toInt32), (vi (lc x3).toInt8.toInt32)]) :: (a8, true, oString (vr a9) (vi 0)) :: (a3, true, ar "[C" .char [(vi x2), (vi x3)]) :: F) rfl ?_
    refine W.dropAt 2 (D' := (a9, true, ar "[B" .byte [(vi (lc x2).toInt8.toInt32), (vi (lc x3).toInt8.toInt32)]) :: (a8, true, oString (vr a9) (vi 0)) :: F) rfl ?_
    exact W.areturn d6_84 rfl rfl rfl (by decide) ⟨a8, a9, rfl, rfl⟩
   refine W.iload d6_42 rfl ?_
   refine W.bipush (65) d6_44 (by decide) ?_
   refine W.icmp 68 d6_46 (by decide) (fun h1 => ?_) (fun h1 => ?_)
   ·
    have ih1 := t_lt h1
    refine W.iload d6_68 rfl ?_
    refine W.top (y := (lc x3)) (lc_of (by have := q65; omega)) ?_
    exact W.mono (by decide) (by decide) (K7  )
   ·
    have ih1 := f_lt h1
    refine W.iload d6_49 rfl ?_
    refine W.bipush (90) d6_51 (by decide) ?_
    refine W.icmp 68 d6_53 (by decide) (fun h2 => ?_) (fun h2 => ?_)
    ·
     have ih2 := t_gt h2
     refine W.iload d6_68 rfl ?_
     refine W.top (y := (lc x3)) (lc_of (by have := q65; have := q90; omega)) ?_
     exact W.mono (by decide) (by decide) (K7  )
    ·
     have ih2 := f_gt h2
     refine W.iload d6_56 rfl ?_
     refine W.bipush (65) d6_58 (by decide) ?_
     refine W.isub d6_60 ?_
     refine W.bipush (97) d6_61 (by decide) ?_
     refine W.iadd d6_63 ?_
     refine W.i2cK ((x3 - (65 : Int32)) + (97 : Int32)) d6_64 (z_i2c (by have := q65; have := a_sub x3 (65 : Int32); have := q97; have := a_add (x3 - (65 : Int32)) (97 : Int32); have := q90; omega)) ?_
     refine W.goto 70 d6_65 (by decide) ?_
     refine W.top (y := (lc x3)) (lc_of (by have := q65; have := a_sub x3 (65 : Int32); have := q97; have := a_add (x3 - (65 : Int32)) (97 : Int32); have := q90; omega)) ?_
     exact W.mono (by decide) (by decide) (K7  )
  refine W.iload d6_42 rfl ?_
  refine W.bipush (65) d6_44 (by decide) ?_
  refine W.icmp 68 d6_46 (by decide) (fun h3 => ?_) (fun h3 => ?_)
  ·
   have ih3 := t_lt h3
   refine W.iload d6_68 rfl ?_
   refine W.top (y := (lc x2)) (lc_of (by have := q65; omega)) ?_
   exact W.mono (by decide) (by decide) (K5  )
  ·
   have ih3 := f_lt h3
   refine W.iload d6_49 rfl ?_
   refine W.bipush (90) d6_51 (by decide) ?_
   refine W.icmp 68 d6_53 (by decide) (fun h4 => ?_) (fun h4 => ?_)
   ·
    have ih4 := t_gt h4
    refine W.iload d6_68 rfl ?_
    refine W.top (y := (lc x2)) (lc_of (by have := q65; have := q90; omega)) ?_
    exact W.mono (by decide) (by decide) (K5  )
   ·
    have ih4 := f_gt h4
    refine W.iload d6_56 rfl ?_
    refine W.bipush (65) d6_58 (by decide) ?_
    refine W.isub d6_60 ?_
    refine W.bipush (97) d6_61 (by decide) ?_
    refine W.iadd d6_63 ?_
    refine W.i2cK ((x2 - (65 : Int32)) + (97 : Int32)) d6_64 (z_i2c (by have := q65; have := a_sub x2 (65 : Int32); have := q97; have := a_add (x2 - (65 : Int32)) (97 : Int32); have := q90; omega)) ?_
    refine W.goto 70 d6_65 (by decide) ?_
    refine W.top (y := (lc x2)) (lc_of (by have := q65; have := a_sub x2 (65 : Int32); have := q97; have := a_add (x2 - (65 : Int32)) (97 : Int32); have := q90; omega)) ?_
    exact W.mono (by decide) (by decide) (K5  )
theorem c156_charAt {Z a0} (hw : HW a0 Z) (hs : SF Z) {p1 : Addr} {x1 : Int32} (hx1 : 0 ≤ x1.toInt ∧ x1.toInt ≤ 255) {e_p1_1 : Value} {w_p1 : Bool} {ad_p1 : String} {F : List Ent} (mp1 : (p1, w_p1, ar ad_p1 .byte [(vi x1.toInt8.toInt32), e_p1_1]) ∈ F) : Con Z EL y36 y36b 2 y36r (rmm 2 0 0 27) [(vr p1), (vi 0)] (F) (fun v D' => (v = some (vi x1) ∧ F = D')) := by
  refine Con.of (ls := #[rv p1, iv 0]) (by decide +kernel) rfl ?_
  refine W.iloadN d31_0 rfl ?_
  refine W.aloadN d31_1 rfl rfl ?_
  refine W.alen (2) d31_2 mp1 rfl ?_
  refine W.callS (as := [(vi 0), (vi 2)]) 0 [] d31_3 (wq hw 179 rfl) (wq hw 180 rfl) (wq hw 3 rfl) (wq hw 181 rfl) (c47_checkIndex hw hs (hr0 := by have := q0; omega) (hr1 := by have := q0; have := q2; omega)) (by decide) pd_II_V rfl rfl rfl rfl (by decide) (fun v D' h => ?_)
  obtain ⟨rfl, rfl⟩ := h
  show W _ _ _ _ _ _ _ _ _ _ _ _ 6 _ []
  refine W.aloadN d31_6 rfl rfl ?_
  refine W.iloadN d31_7 rfl ?_
  refine W.baload 0 d31_8 mp1 ix0 rfl ?_
  refine W.sipush (255) d31_9 (by decide) ?_
  refine W.iandK x1 d31_12 (z_b255 hx1) ?_
  refine W.i2cK x1 d31_13 (z_i2c (by omega)) ?_
  exact W.ireturn d31_14 rfl (Or.inr (Or.inr (Or.inr (Or.inl rfl)))) (nw_char (by omega)) (by decide) ⟨rfl, rfl⟩
theorem c155_charAt {Z a0} (hw : HW a0 Z) (hs : SF Z) {p1 p2 : Addr} {x1 : Int32} (hx1 : 0 ≤ x1.toInt ∧ x1.toInt ≤ 255) {e_p2_1 : Value} {w_p1 : Bool} {w_p2 : Bool} {ad_p2 : String} {F : List Ent} (mp1 : (p1, w_p1, oString (vr p2) (vi 0)) ∈ F) (mp2 : (p2, w_p2, ar ad_p2 .byte [(vi x1.toInt8.toInt32), e_p2_1]) ∈ F) : Con Z EL y37 y37b 2 y37r (rmm 3 0 0 40) [(vr p1), (vi 0)] (F) (fun v D' => (v = some (vi x1) ∧ F = D')) := by
  refine Con.of (ls := #[rv p1, iv 0]) (by decide +kernel) rfl ?_
  refine W.aloadN d30_0 rfl rfl ?_
  refine W.callV (as := []) 0 [] d30_1 (wq hw 84 rfl) (wq hw 85 rfl) (wq hw 87 rfl) (wq hw 87 rfl) (wq hw 86 rfl) (wq hw 3 rfl) (wq hw 88 rfl) (Hp.exa mp1) (c24_isLatin1 hw hs (mp1 := mp1)) (by decide) pd__Z rfl rfl rfl rfl (by decide) (fun v D' h => ?_)
  obtain ⟨rfl, rfl⟩ := h
  show W _ _ _ _ _ _ _ _ _ _ _ _ 4 _ [(vi 1)]
  refine W.ifN d30_4 (n_eq (by decide)) ?_
  refine W.aloadN d30_7 rfl rfl ?_
  refine W.getf d30_8 (wq hw 20 rfl) Via.refl mp1 m0 ?_
  refine W.iloadN d30_11 rfl ?_
  refine W.callS (as := [(vr p2), (vi 0)]) 0 [] d30_12 (wq hw 176 rfl) (wq hw 177 rfl) (wq hw 91 rfl) (wq hw 178 rfl) (c156_charAt hw hs (hx1 := hx1) (mp1 := mp2)) (by decide) pd__BI_C rfl rfl rfl rfl (by decide) (fun v D' h => ?_)
  obtain ⟨rfl, rfl⟩ := h
  show W _ _ _ _ _ _ _ _ _ _ _ _ 15 _ [(vi x1)]
  exact W.ireturn d30_15 rfl (Or.inr (Or.inr (Or.inr (Or.inl rfl)))) (nw_char (by omega)) (by decide) ⟨rfl, rfl⟩
theorem c158_charAt {Z a0} (hw : HW a0 Z) (hs : SF Z) {p1 : Addr} {x2 : Int32} (hx2 : 0 ≤ x2.toInt ∧ x2.toInt ≤ 255) {e_p1_0 : Value} {w_p1 : Bool} {ad_p1 : String} {F : List Ent} (mp1 : (p1, w_p1, ar ad_p1 .byte [e_p1_0, (vi x2.toInt8.toInt32)]) ∈ F) : Con Z EL y36 y36b 2 y36r (rmm 2 0 0 27) [(vr p1), (vi 1)] (F) (fun v D' => (v = some (vi x2) ∧ F = D')) := by
  refine Con.of (ls := #[rv p1, iv 1]) (by decide +kernel) rfl ?_
  refine W.iloadN d31_0 rfl ?_
  refine W.aloadN d31_1 rfl rfl ?_
  refine W.alen (2) d31_2 mp1 rfl ?_
  refine W.callS (as := [(vi 1), (vi 2)]) 0 [] d31_3 (wq hw 179 rfl) (wq hw 180 rfl) (wq hw 3 rfl) (wq hw 181 rfl) (c47_checkIndex hw hs (hr0 := by have := q0; have := q1; omega) (hr1 := by have := q1; have := q2; omega)) (by decide) pd_II_V rfl rfl rfl rfl (by decide) (fun v D' h => ?_)
  obtain ⟨rfl, rfl⟩ := h
  show W _ _ _ _ _ _ _ _ _ _ _ _ 6 _ []
  refine W.aloadN d31_6 rfl rfl ?_
  refine W.iloadN d31_7 rfl ?_
  refine W.baload 1 d31_8 mp1 ix1 rfl ?_
  refine W.sipush (255) d31_9 (by decide) ?_
  refine W.iandK x2 d31_12 (z_b255 hx2) ?_
  refine W.i2cK x2 d31_13 (z_i2c (by omega)) ?_
  exact W.ireturn d31_14 rfl (Or.inr (Or.inr (Or.inr (Or.inl rfl)))) (nw_char (by omega)) (by decide) ⟨rfl, rfl⟩
theorem c157_charAt {Z a0} (hw : HW a0 Z) (hs : SF Z) {p1 p2 : Addr} {x2 : Int32} (hx2 : 0 ≤ x2.toInt ∧ x2.toInt ≤ 255) {e_p2_0 : Value} {w_p1 : Bool} {w_p2 : Bool} {ad_p2 : String} {F : List Ent} (mp1 : (p1, w_p1, oString (vr p2) (vi 0)) ∈ F) (mp2 : (p2, w_p2, ar ad_p2 .byte [e_p2_0, (vi x2.toInt8.toInt32)]) ∈ F) : Con Z EL y37 y37b 2 y37r (rmm 3 0 0 40) [(vr p1), (vi 1)] (F) (fun v D' => (v = some (vi x2) ∧ F = D')) := by
  refine Con.of (ls := #[rv p1, iv 1]) (by decide +kernel) rfl ?_
  refine W.aloadN d30_0 rfl rfl ?_
  refine W.callV (as := []) 0 [] d30_1 (wq hw 84 rfl) (wq hw 85 rfl) (wq hw 87 rfl) (wq hw 87 rfl) (wq hw 86 rfl) (wq hw 3 rfl) (wq hw 88 rfl) (Hp.exa mp1) (c24_isLatin1 hw hs (mp1 := mp1)) (by decide) pd__Z rfl rfl rfl rfl (by decide) (fun v D' h => ?_)
  obtain ⟨rfl, rfl⟩ := h
  show W _ _ _ _ _ _ _ _ _ _ _ _ 4 _ [(vi 1)]
  refine W.ifN d30_4 (n_eq (by decide)) ?_
  refine W.aloadN d30_7 rfl rfl ?_
  refine W.getf d30_8 (wq hw 20 rfl) Via.refl mp1 m0 ?_
  refine W.iloadN d30_11 rfl ?_
  refine W.callS (as := [(vr p2), (vi 1)]) 0 [] d30_12 (wq hw 176 rfl) (wq hw 177 rfl) (wq hw 91 rfl) (wq hw 178 rfl) (c158_charAt hw hs (hx2 := hx2) (mp1 := mp2)) (by decide) pd__BI_C rfl rfl rfl rfl (by decide) (fun v D' h => ?_)
  obtain ⟨rfl, rfl⟩ := h
  show W _ _ _ _ _ _ _ _ _ _ _ _ 15 _ [(vi x2)]
  exact W.ireturn d30_15 rfl (Or.inr (Or.inr (Or.inr (Or.inl rfl)))) (nw_char (by omega)) (by decide) ⟨rfl, rfl⟩
theorem c160_length {Z a0} (hw : HW a0 Z) (hs : SF Z) {p1 p2 : Addr} {vs_p2 : List Value} (hvs_p2 : vs_p2.length = 4) {w_p1 : Bool} {w_p2 : Bool} {ad_p2 : String} {F : List Ent} (mp1 : (p1, w_p1, oString (vr p2) (vi 1)) ∈ F) (mp2 : (p2, w_p2, ar ad_p2 .byte vs_p2) ∈ F) : Con Z EL y14 y14b 1 y14r (rmm 1 0 0 13) [(vr p1)] (F) (fun v D' => (v = some (vi 2) ∧ F = D')) := by
  refine Con.of (ls := #[rv p1]) (by decide +kernel) rfl ?_
  refine W.aloadN d7_0 rfl rfl ?_
  refine W.getf d7_1 (wq hw 20 rfl) Via.refl mp1 m0 ?_
  refine W.alen (4) d7_4 mp2 (by rw [hvs_p2]; rfl) ?_
  refine W.aloadN d7_5 rfl rfl ?_
  refine W.callV (as := []) 1 [(vi 4)] d7_6 (wq hw 58 rfl) (wq hw 59 rfl) (wq hw 61 rfl) (wq hw 61 rfl) (wq hw 60 rfl) (wq hw 3 rfl) (wq hw 62 rfl) (Hp.exa mp1) (c56_coder hw hs (mp1 := mp1)) (by decide) pd__B rfl rfl rfl rfl (by decide) (fun v D' h => ?_)
  obtain ⟨rfl, rfl⟩ := h
  show W _ _ _ _ _ _ _ _ _ _ _ _ 9 _ [(vi 1), (vi 4)]
  refine W.ishrK (2 : Int32) d7_9 (by decide) ?_
  exact W.ireturn d7_10 rfl (Or.inl rfl) rfl (by decide) ⟨rfl, rfl⟩
theorem c165_length {Z a0} (hw : HW a0 Z) (hs : SF Z) {p1 : Addr} {vs_p1 : List Value} (hvs_p1 : vs_p1.length = 4) {w_p1 : Bool} {ad_p1 : String} {F : List Ent} (mp1 : (p1, w_p1, ar ad_p1 .byte vs_p1) ∈ F) : Con Z EL y39 y39b 1 y39r (rmm 0 0 0 0) [(vr p1)] (F) (fun v D' => (v = some (vi 2) ∧ F = D')) := by
  refine Con.of (ls := #[rv p1]) (by decide +kernel) rfl ?_
  refine W.aloadN d43_0 rfl rfl ?_
  refine W.alen (4) d43_1 mp1 (by rw [hvs_p1]; rfl) ?_
  refine W.iconst (1) d43_2 (by decide) ?_
  refine W.ishrK (2 : Int32) d43_3 (by decide) ?_
  exact W.ireturn d43_4 rfl (Or.inl rfl) rfl (by decide) ⟨rfl, rfl⟩
theorem c167_checkFromIndexSize {Z a0} (hw : HW a0 Z) (hs : SF Z) {F : List Ent} : Con Z EL y40 y40b 4 y40r (rmm 0 0 0 0) [(vi 0), (vi 2), (vi 2), (sfv Z)] (F) (fun v D' => (v = some (vi 0) ∧ F = D')) := by
  refine Con.of (ls := #[iv 0, iv 2, iv 2, .val (sfv Z)]) (by decide +kernel) (hent_of (ld1 rfl (ld1 rfl (ld1 rfl (ld1 (XT.cat1 hs.2.2.1) ld0)))) rfl) ?_
  refine W.iloadN d45_0 rfl ?_
  refine W.iloadN d45_1 rfl ?_
  refine W.iorK (2 : Int32) d45_2 (by decide) ?_
  refine W.iloadN d45_3 rfl ?_
  refine W.iorK (2 : Int32) d45_4 (by decide) ?_
  refine W.ifN d45_5 (n_lt (by decide)) ?_
  refine W.iloadN d45_8 rfl ?_
  refine W.iloadN d45_9 rfl ?_
  refine W.iloadN d45_10 rfl ?_
  refine W.isubK (2 : Int32) d45_11 (by decide) ?_
  refine W.icmpY 23 d45_12 (y_le (by decide)) (by decide) ?_
  refine W.iloadN d45_23 rfl ?_
  exact W.ireturn d45_24 rfl (Or.inl rfl) rfl (by decide) ⟨rfl, rfl⟩
theorem c166_checkBoundsOffCount {Z a0} (hw : HW a0 Z) (hs : SF Z) {F : List Ent} : Con Z EL y41 y41b 3 y41r (rmm 1 0 0 15) [(vi 0), (vi 2), (vi 2)] (F) (fun v D' => (v = some (vi 0) ∧ F = D')) := by
  refine Con.of (ls := #[iv 0, iv 2, iv 2]) (by decide +kernel) rfl ?_
  refine W.iloadN d44_0 rfl ?_
  refine W.iloadN d44_1 rfl ?_
  refine W.iloadN d44_2 rfl ?_
  refine W.gets d44_3 (wq hw 182 rfl) Via.refl hs.2.2.2.1 ?_
  refine W.callS (as := [(vi 0), (vi 2), (vi 2), (sfv Z)]) 0 [] d44_6 (wq hw 225 rfl) (wq hw 226 rfl) (wq hw 183 rfl) (wq hw 227 rfl) (c167_checkFromIndexSize hw hs) (by decide) pd_IIILjava_util_function_BiFunction__I rfl rfl rfl rfl (by decide) (fun v D' h => ?_)
  obtain ⟨rfl, rfl⟩ := h
  show W _ _ _ _ _ _ _ _ _ _ _ _ 9 _ [(vi 0)]
  exact W.ireturn d44_9 rfl (Or.inl rfl) rfl (by decide) ⟨rfl, rfl⟩
theorem c164_checkBoundsOffCount {Z a0} (hw : HW a0 Z) (hs : SF Z) {p1 : Addr} {vs_p1 : List Value} (hvs_p1 : vs_p1.length = 4) {w_p1 : Bool} {ad_p1 : String} {F : List Ent} (mp1 : (p1, w_p1, ar ad_p1 .byte vs_p1) ∈ F) : Con Z EL y42 y42b 3 y42r (rmm 2 0 0 29) [(vi 0), (vi 2), (vr p1)] (F) (fun v D' => (v = none ∧ F = D')) := by
  refine Con.of (ls := #[iv 0, iv 2, rv p1]) (by decide +kernel) rfl ?_
  refine W.iloadN d42_0 rfl ?_
  refine W.iloadN d42_1 rfl ?_
  refine W.aloadN d42_2 rfl rfl ?_
  refine W.callS (as := [(vr p1)]) 2 [(vi 2), (vi 0)] d42_3 (wq hw 219 rfl) (wq hw 220 rfl) (wq hw 145 rfl) (wq hw 221 rfl) (c165_length hw hs (hvs_p1 := hvs_p1) (mp1 := mp1)) (by decide) pd__B_I rfl rfl rfl rfl (by decide) (fun v D' h => ?_)
  obtain ⟨rfl, rfl⟩ := h
  show W _ _ _ _ _ _ _ _ _ _ _ _ 6 _ [(vi 2), (vi 2), (vi 0)]
  refine W.callS (as := [(vi 0), (vi 2), (vi 2)]) 0 [] d42_6 (wq hw 222 rfl) (wq hw 223 rfl) (wq hw 3 rfl) (wq hw 224 rfl) (c166_checkBoundsOffCount hw hs) (by decide) pd_III_I rfl rfl rfl rfl (by decide) (fun v D' h => ?_)
  obtain ⟨rfl, rfl⟩ := h
  show W _ _ _ _ _ _ _ _ _ _ _ _ 9 _ [(vi 0)]
  refine W.popv d42_9 rfl ?_
  exact W.return_ d42_10 rfl (by decide) ⟨rfl, rfl⟩
theorem c163_getChars {Z a0} (hw : HW a0 Z) (hs : SF Z) {p1 p2 : Addr} {x1 : Int32} (hx1 : 0 ≤ x1.toInt ∧ x1.toInt ≤ 65535) {x2 : Int32} (hx2 : 0 ≤ x2.toInt ∧ x2.toInt ≤ 65535) {ad_p2 : String} {w_p1 : Bool} {ad_p1 : String} {F : List Ent} (mp1 : (p1, w_p1, ar ad_p1 .byte [(vi x1.toInt8.toInt32), (vi (x1 >>> ((8 : Int32) &&& 31)).toInt8.toInt32), (vi x2.toInt8.toInt32), (vi (x2 >>> ((8 : Int32) &&& 31)).toInt8.toInt32)]) ∈ F) : Con Z EL y43 y43b 6 y43r (rmm 3 0 0 43) [(vr p1), (vi 0), (vi 2), (vr p2), (vi 0)] ((p2, true, ar ad_p2 .char [(vi 0), (vi 0)]) :: F) (fun v D' => (v = none ∧ (p2, true, ar ad_p2 .char [(vi x1), (vi x2)]) :: F = D')) := by
  refine Con.of (ls := #[rv p1, iv 0, iv 2, rv p2, iv 0, uu]) (by decide +kernel) rfl ?_
  refine W.iloadN d41_0 rfl ?_
  refine W.iloadN d41_1 rfl ?_
  refine W.icmpN d41_2 (n_ge (by decide)) ?_
  refine W.iloadN d41_5 rfl ?_
  refine W.iloadN d41_6 rfl ?_
  refine W.iloadN d41_7 rfl ?_
  refine W.isubK (2 : Int32) d41_8 (by decide) ?_
  refine W.aloadN d41_9 rfl rfl ?_
  refine W.callS (as := [(vi 0), (vi 2), (vr p1)]) 0 [] d41_10 (wq hw 216 rfl) (wq hw 217 rfl) (wq hw 145 rfl) (wq hw 218 rfl) (c164_checkBoundsOffCount hw hs (hvs_p1 := rfl) (mp1 := (mS mp1))) (by decide) pd_II_B_V rfl rfl rfl rfl (by decide) (fun v D' h => ?_)
  obtain ⟨rfl, rfl⟩ := h
  show W _ _ _ _ _ _ _ _ _ _ _ _ 13 _ []
  refine W.iloadN d41_13 rfl ?_
  refine W.istore (ls' := #[rv p1, iv 0, iv 2, rv p2, iv 0, iv 0]) d41_14 rfl ?_
  refine W.iload d41_16 rfl ?_
  refine W.iloadN d41_18 rfl ?_
  refine W.icmpN d41_19 (n_ge (by decide)) ?_
  refine W.aloadN d41_22 rfl rfl ?_
  refine W.iload d41_23 rfl ?_
  refine W.iincK (ls' := #[rv p1, iv 0, iv 2, rv p2, iv 1, iv 0]) (1) (1 : Int32) d41_25 (by decide) rfl (by decide) rfl ?_
  refine W.aloadN d41_28 rfl rfl ?_
  refine W.iload d41_29 rfl ?_
  refine W.callS (as := [(vr p1), (vi 0)]) 2 [(vi 0), (vr p2)] d41_31 (wq hw 207 rfl) (wq hw 208 rfl) (wq hw 145 rfl) (wq hw 209 rfl) (c135_getChar hw hs (hx1 := hx1) (mp1 := (mS mp1))) (by decide) pd__BI_C rfl rfl rfl rfl (by decide) (fun v D' h => ?_)
  obtain ⟨rfl, rfl⟩ := h
  show W _ _ _ _ _ _ _ _ _ _ _ _ 34 _ [(vi x1), (vi 0), (vr p2)]
  refine W.castore (D' := (p2, true, ar ad_p2 .char [(vi x1), (vi 0)]) :: F) 0 0 d41_34 rfl ix0 (Nat.le_of_ble_eq_true rfl) (z_narC hx1) rfl ?_
  refine W.iincK (ls' := #[rv p1, iv 0, iv 2, rv p2, iv 1, iv 1]) (1) (1 : Int32) d41_35 (by decide) rfl (by decide) rfl ?_
  refine W.goto 16 d41_38 (by decide) ?_
  refine W.iload d41_16 rfl ?_
  refine W.iloadN d41_18 rfl ?_
  refine W.icmpN d41_19 (n_ge (by decide)) ?_
  refine W.aloadN d41_22 rfl rfl ?_
  refine W.iload d41_23 rfl ?_
  refine W.iincK (ls' := #[rv p1, iv 0, iv 2, rv p2, iv 2, iv 1]) (1) (2 : Int32) d41_25 (by decide) rfl (by decide) rfl ?_
  refine W.aloadN d41_28 rfl rfl ?_
  refine W.iload d41_29 rfl ?_
  refine W.callS (as := [(vr p1), (vi 1)]) 2 [(vi 1), (vr p2)] d41_31 (wq hw 207 rfl) (wq hw 208 rfl) (wq hw 145 rfl) (wq hw 209 rfl) (c134_getChar hw hs (hx2 := hx2) (mp1 := (mS mp1))) (by decide) pd__BI_C rfl rfl rfl rfl (by decide) (fun v D' h => ?_)
  obtain ⟨rfl, rfl⟩ := h
  show W _ _ _ _ _ _ _ _ _ _ _ _ 34 _ [(vi x2), (vi 1), (vr p2)]
  refine W.castore (D' := (p2, true, ar ad_p2 .char [(vi x1), (vi x2)]) :: F) 0 1 d41_34 rfl ix1 (Nat.le_of_ble_eq_true rfl) (z_narC hx2) rfl ?_
  refine W.iincK (ls' := #[rv p1, iv 0, iv 2, rv p2, iv 2, iv 2]) (1) (2 : Int32) d41_35 (by decide) rfl (by decide) rfl ?_
  refine W.goto 16 d41_38 (by decide) ?_
  refine W.iload d41_16 rfl ?_
  refine W.iloadN d41_18 rfl ?_
  refine W.icmpY 41 d41_19 (y_ge (by decide)) (by decide) ?_
  exact W.return_ d41_41 rfl (by decide) ⟨rfl, rfl⟩
theorem c162_toChars {Z a0} (hw : HW a0 Z) (hs : SF Z) {p1 : Addr} {x1 : Int32} (hx1 : 0 ≤ x1.toInt ∧ x1.toInt ≤ 65535) {x2 : Int32} (hx2 : 0 ≤ x2.toInt ∧ x2.toInt ≤ 65535) {w_p1 : Bool} {ad_p1 : String} {F : List Ent} (mp1 : (p1, w_p1, ar ad_p1 .byte [(vi x1.toInt8.toInt32), (vi (x1 >>> ((8 : Int32) &&& 31)).toInt8.toInt32), (vi x2.toInt8.toInt32), (vi (x2 >>> ((8 : Int32) &&& 31)).toInt8.toInt32)]) ∈ F) : Con Z EL y44 y44b 2 y44r (rmm 4 1 2 60) [(vr p1)] (F) (fun v D' => (∃ a1 : Addr, v = some (vr a1) ∧ (a1, true, ar "[C" .char [(vi x1), (vi x2)]) :: F = D')) := by
  refine Con.of (ls := #[rv p1, uu]) (by decide +kernel) rfl ?_
  refine W.aloadN d40_0 rfl rfl ?_
  refine W.alen (4) d40_1 mp1 rfl ?_
  refine W.iconst (1) d40_2 (by decide) ?_
  refine W.ishrK (2 : Int32) d40_3 (by decide) ?_
  refine W.newarr 2 (ad := "[C") (ty := .char) d40_4 rfl (wq hw 0 rfl) ix2 rfl (by decide) (by decide) (fun a1 => ?_)
  show W _ _ _ _ _ _ _ _ _ _ _ _ 6 _ [(vr a1)]
  refine W.astoreN (ls' := #[rv p1, rv a1]) d40_6 rfl rfl ?_
  refine W.aloadN d40_7 rfl rfl ?_
  refine W.iconst (0) d40_8 (by decide) ?_
  refine W.aloadN d40_9 rfl rfl ?_
  refine W.alen (2) d40_10 m0 rfl ?_
  refine W.aloadN d40_11 rfl rfl ?_
  refine W.iconst (0) d40_12 (by decide) ?_
  refine W.callS (as := [(vr p1), (vi 0), (vi 2), (vr a1), (vi 0)]) 0 [] d40_13 (wq hw 213 rfl) (wq hw 214 rfl) (wq hw 145 rfl) (wq hw 215 rfl) (c163_getChars hw hs (hx1 := hx1) (hx2 := hx2) (mp1 := mp1)) (by decide) pd__BII_CI_V rfl rfl rfl rfl (by decide) (fun v D' h => ?_)
  obtain ⟨rfl, rfl⟩ := h
  show W _ _ _ _ _ _ _ _ _ _ _ _ 16 _ []
  refine W.aloadN d40_16 rfl rfl ?_
  exact W.areturn d40_17 rfl rfl rfl (by decide) ⟨a1, rfl, rfl⟩
theorem c161_toCharArray {Z a0} (hw : HW a0 Z) (hs : SF Z) {p1 p2 : Addr} {x1 : Int32} (hx1 : 0 ≤ x1.toInt ∧ x1.toInt ≤ 65535) {x2 : Int32} (hx2 : 0 ≤ x2.toInt ∧ x2.toInt ≤ 65535) {w_p1 : Bool} {w_p2 : Bool} {ad_p2 : String} {F : List Ent} (mp1 : (p1, w_p1, oString (vr p2) (vi 1)) ∈ F) (mp2 : (p2, w_p2, ar ad_p2 .byte [(vi x1.toInt8.toInt32), (vi (x1 >>> ((8 : Int32) &&& 31)).toInt8.toInt32), (vi x2.toInt8.toInt32), (vi (x2 >>> ((8 : Int32) &&& 31)).toInt8.toInt32)]) ∈ F) : Con Z EL y20 y20b 1 y20r (rmm 5 1 2 73) [(vr p1)] (F) (fun v D' => (∃ a1 : Addr, v = some (vr a1) ∧ (a1, true, ar "[C" .char [(vi x1), (vi x2)]) :: F = D')) := by
  refine Con.of (ls := #[rv p1]) (by decide +kernel) rfl ?_
  refine W.aloadN d11_0 rfl rfl ?_
  refine W.callV (as := []) 0 [] d11_1 (wq hw 84 rfl) (wq hw 85 rfl) (wq hw 87 rfl) (wq hw 87 rfl) (wq hw 86 rfl) (wq hw 3 rfl) (wq hw 88 rfl) (Hp.exa mp1) (c58_isLatin1 hw hs (mp1 := mp1)) (by decide) pd__Z rfl rfl rfl rfl (by decide) (fun v D' h => ?_)
  obtain ⟨rfl, rfl⟩ := h
  show W _ _ _ _ _ _ _ _ _ _ _ _ 4 _ [(vi 0)]
  refine W.ifY 17 d11_4 (y_eq (by decide)) (by decide) ?_
  refine W.aloadN d11_17 rfl rfl ?_
  refine W.getf d11_18 (wq hw 20 rfl) Via.refl mp1 m0 ?_
  refine W.callS (as := [(vr p2)]) 0 [] d11_21 (wq hw 210 rfl) (wq hw 211 rfl) (wq hw 145 rfl) (wq hw 212 rfl) (c162_toChars hw hs (hx1 := hx1) (hx2 := hx2) (mp1 := mp2)) (by decide) pd__B__C rfl rfl rfl rfl (by decide) (fun v D' h => ?_)
  obtain ⟨a1, rfl, rfl⟩ := h
  show W _ _ _ _ _ _ _ _ _ _ _ _ 24 _ [(vr a1)]
  exact W.areturn d11_24 rfl rfl rfl (by decide) ⟨a1, rfl, rfl⟩
theorem c175_checkFromIndexSize {Z a0} (hw : HW a0 Z) (hs : SF Z) {F : List Ent} : Con Z EL y40 y40b 4 y40r (rmm 0 0 0 0) [(vi 0), (vi 1), (vi 2), (sfv Z)] (F) (fun v D' => (v = some (vi 0) ∧ F = D')) := by
  refine Con.of (ls := #[iv 0, iv 1, iv 2, .val (sfv Z)]) (by decide +kernel) (hent_of (ld1 rfl (ld1 rfl (ld1 rfl (ld1 (XT.cat1 hs.2.2.1) ld0)))) rfl) ?_
  refine W.iloadN d45_0 rfl ?_
  refine W.iloadN d45_1 rfl ?_
  refine W.iorK (2 : Int32) d45_2 (by decide) ?_
  refine W.iloadN d45_3 rfl ?_
  refine W.iorK (3 : Int32) d45_4 (by decide) ?_
  refine W.ifN d45_5 (n_lt (by decide)) ?_
  refine W.iloadN d45_8 rfl ?_
  refine W.iloadN d45_9 rfl ?_
  refine W.iloadN d45_10 rfl ?_
  refine W.isubK (2 : Int32) d45_11 (by decide) ?_
  refine W.icmpY 23 d45_12 (y_le (by decide)) (by decide) ?_
  refine W.iloadN d45_23 rfl ?_
  exact W.ireturn d45_24 rfl (Or.inl rfl) rfl (by decide) ⟨rfl, rfl⟩
theorem c174_checkBoundsOffCount {Z a0} (hw : HW a0 Z) (hs : SF Z) {F : List Ent} : Con Z EL y41 y41b 3 y41r (rmm 1 0 0 15) [(vi 0), (vi 1), (vi 2)] (F) (fun v D' => (v = some (vi 0) ∧ F = D')) := by
  refine Con.of (ls := #[iv 0, iv 1, iv 2]) (by decide +kernel) rfl ?_
  refine W.iloadN d44_0 rfl ?_
  refine W.iloadN d44_1 rfl ?_
  refine W.iloadN d44_2 rfl ?_
  refine W.gets d44_3 (wq hw 182 rfl) Via.refl hs.2.2.2.1 ?_
  refine W.callS (as := [(vi 0), (vi 1), (vi 2), (sfv Z)]) 0 [] d44_6 (wq hw 225 rfl) (wq hw 226 rfl) (wq hw 183 rfl) (wq hw 227 rfl) (c175_checkFromIndexSize hw hs) (by decide) pd_IIILjava_util_function_BiFunction__I rfl rfl rfl rfl (by decide) (fun v D' h => ?_)
  obtain ⟨rfl, rfl⟩ := h
  show W _ _ _ _ _ _ _ _ _ _ _ _ 9 _ [(vi 0)]
  exact W.ireturn d44_9 rfl (Or.inl rfl) rfl (by decide) ⟨rfl, rfl⟩
theorem c173_checkBoundsOffCount {Z a0} (hw : HW a0 Z) (hs : SF Z) {p1 : Addr} {vs_p1 : List Value} (hvs_p1 : vs_p1.length = 4) {w_p1 : Bool} {ad_p1 : String} {F : List Ent} (mp1 : (p1, w_p1, ar ad_p1 .byte vs_p1) ∈ F) : Con Z EL y42 y42b 3 y42r (rmm 2 0 0 29) [(vi 0), (vi 1), (vr p1)] (F) (fun v D' => (v = none ∧ F = D')) := by
  refine Con.of (ls := #[iv 0, iv 1, rv p1]) (by decide +kernel) rfl ?_
  refine W.iloadN d42_0 rfl ?_
  refine W.iloadN d42_1 rfl ?_
  refine W.aloadN d42_2 rfl rfl ?_
  refine W.callS (as := [(vr p1)]) 2 [(vi 1), (vi 0)] d42_3 (wq hw 219 rfl) (wq hw 220 rfl) (wq hw 145 rfl) (wq hw 221 rfl) (c165_length hw hs (hvs_p1 := hvs_p1) (mp1 := mp1)) (by decide) pd__B_I rfl rfl rfl rfl (by decide) (fun v D' h => ?_)
  obtain ⟨rfl, rfl⟩ := h
  show W _ _ _ _ _ _ _ _ _ _ _ _ 6 _ [(vi 2), (vi 1), (vi 0)]
  refine W.callS (as := [(vi 0), (vi 1), (vi 2)]) 0 [] d42_6 (wq hw 222 rfl) (wq hw 223 rfl) (wq hw 3 rfl) (wq hw 224 rfl) (c174_checkBoundsOffCount hw hs) (by decide) pd_III_I rfl rfl rfl rfl (by decide) (fun v D' h => ?_)
  obtain ⟨rfl, rfl⟩ := h
  show W _ _ _ _ _ _ _ _ _ _ _ _ 9 _ [(vi 0)]
  refine W.popv d42_9 rfl ?_
  exact W.return_ d42_10 rfl (by decide) ⟨rfl, rfl⟩
theorem c172_inflate {Z a0} (hw : HW a0 Z) (hs : SF Z) {p1 p2 : Addr} {x1 : Int32} (hx1 : 0 ≤ x1.toInt ∧ x1.toInt ≤ 255) {e_p2_2 e_p2_3 e_p1_1 : Value} {ad_p2 : String} {w_p1 : Bool} {ad_p1 : String} {F : List Ent} (mp1 : (p1, w_p1, ar ad_p1 .byte [(vi x1.toInt8.toInt32), e_p1_1]) ∈ F) : Con Z EL y45 y45b 6 y45r (rmm 3 0 0 43) [(vr p1), (vi 0), (vr p2), (vi 0), (vi 1)] ((p2, true, ar ad_p2 .byte [(vi 0), (vi 0), e_p2_2, e_p2_3]) :: F) (fun v D' => (v = none ∧ (p2, true, ar ad_p2 .byte [(vi x1.toInt8.toInt32), (vi (x1 >>> ((8 : Int32) &&& 31)).toInt8.toInt32), e_p2_2, e_p2_3]) :: F = D')) := by
  refine Con.of (ls := #[rv p1, iv 0, rv p2, iv 0, iv 1, uu]) (by decide +kernel) rfl ?_
  refine W.iloadN d48_0 rfl ?_
  refine W.iload d48_1 rfl ?_
  refine W.aloadN d48_3 rfl rfl ?_
  refine W.callS (as := [(vi 0), (vi 1), (vr p2)]) 0 [] d48_4 (wq hw 216 rfl) (wq hw 217 rfl) (wq hw 145 rfl) (wq hw 218 rfl) (c173_checkBoundsOffCount hw hs (hvs_p1 := rfl) (mp1 := m0)) (by decide) pd_II_B_V rfl rfl rfl rfl (by decide) (fun v D' h => ?_)
  obtain ⟨rfl, rfl⟩ := h
  show W _ _ _ _ _ _ _ _ _ _ _ _ 7 _ []
  refine W.iconst (0) d48_7 (by decide) ?_
  refine W.istore (ls' := #[rv p1, iv 0, rv p2, iv 0, iv 1, iv 0]) d48_8 rfl ?_
  refine W.iload d48_10 rfl ?_
  refine W.iload d48_12 rfl ?_
  refine W.icmpN d48_14 (n_ge (by decide)) ?_
  refine W.aloadN d48_17 rfl rfl ?_
  refine W.iloadN d48_18 rfl ?_
  refine W.iincK (ls' := #[rv p1, iv 0, rv p2, iv 1, iv 1, iv 0]) (1) (1 : Int32) d48_19 (by decide) rfl (by decide) rfl ?_
  refine W.aloadN d48_22 rfl rfl ?_
  refine W.iloadN d48_23 rfl ?_
  refine W.iincK (ls' := #[rv p1, iv 1, rv p2, iv 1, iv 1, iv 0]) (1) (1 : Int32) d48_24 (by decide) rfl (by decide) rfl ?_
  refine W.baload 0 d48_27 (mS mp1) ix0 rfl ?_
  refine W.sipush (255) d48_28 (by decide) ?_
  refine W.iandK x1 d48_31 (z_b255 hx1) ?_
  refine W.callS (as := [(vr p2), (vi 0), (vi x1)]) 0 [] d48_32 (wq hw 201 rfl) (wq hw 202 rfl) (wq hw 145 rfl) (wq hw 203 rfl) (c132_putChar hw hs (hx1 := (by omega))) (by decide) pd__BII_V rfl rfl rfl rfl (by decide) (fun v D' h => ?_)
  obtain ⟨rfl, rfl⟩ := h
  show W _ _ _ _ _ _ _ _ _ _ _ _ 35 _ []
  refine W.iincK (ls' := #[rv p1, iv 1, rv p2, iv 1, iv 1, iv 1]) (1) (1 : Int32) d48_35 (by decide) rfl (by decide) rfl ?_
  refine W.goto 10 d48_38 (by decide) ?_
  refine W.iload d48_10 rfl ?_
  refine W.iload d48_12 rfl ?_
  refine W.icmpY 41 d48_14 (y_ge (by decide)) (by decide) ?_
  exact W.return_ d48_41 rfl (by decide) ⟨rfl, rfl⟩
theorem c171_inflate {Z a0} (hw : HW a0 Z) (hs : SF Z) {p1 p2 : Addr} {x1 : Int32} (hx1 : 0 ≤ x1.toInt ∧ x1.toInt ≤ 255) {e_p2_2 e_p2_3 e_p1_1 : Value} {ad_p2 : String} {w_p1 : Bool} {ad_p1 : String} {F : List Ent} (mp1 : (p1, w_p1, ar ad_p1 .byte [(vi x1.toInt8.toInt32), e_p1_1]) ∈ F) : Con Z EL y46 y46b 5 y46r (rmm 4 0 0 60) [(vr p1), (vi 0), (vr p2), (vi 0), (vi 1)] ((p2, true, ar ad_p2 .byte [(vi 0), (vi 0), e_p2_2, e_p2_3]) :: F) (fun v D' => (v = none ∧ (p2, true, ar ad_p2 .byte [(vi x1.toInt8.toInt32), (vi (x1 >>> ((8 : Int32) &&& 31)).toInt8.toInt32), e_p2_2, e_p2_3]) :: F = D')) := by
  refine Con.of (ls := #[rv p1, iv 0, rv p2, iv 0, iv 1]) (by decide +kernel) rfl ?_
  refine W.aloadN d47_0 rfl rfl ?_
  refine W.iloadN d47_1 rfl ?_
  refine W.aloadN d47_2 rfl rfl ?_
  refine W.iloadN d47_3 rfl ?_
  refine W.iload d47_4 rfl ?_
  refine W.callS (as := [(vr p1), (vi 0), (vr p2), (vi 0), (vi 1)]) 0 [] d47_6 (wq hw 237 rfl) (wq hw 238 rfl) (wq hw 145 rfl) (wq hw 239 rfl) (c172_inflate hw hs (hx1 := hx1) (mp1 := mp1)) (by decide) pd__BI_BII_V rfl rfl rfl rfl (by decide) (fun v D' h => ?_)
  obtain ⟨rfl, rfl⟩ := h
  show W _ _ _ _ _ _ _ _ _ _ _ _ 9 _ []
  exact W.return_ d47_9 rfl (by decide) ⟨rfl, rfl⟩
theorem c170_inflate {Z a0} (hw : HW a0 Z) (hs : SF Z) {p1 p2 : Addr} {x1 : Int32} (hx1 : 0 ≤ x1.toInt ∧ x1.toInt ≤ 255) {f_p1_3 e_p2_1 : Value} {w_p2 : Bool} {ad_p2 : String} {F : List Ent} (mp2 : (p2, w_p2, ar ad_p2 .byte [(vi x1.toInt8.toInt32), e_p2_1]) ∈ F) : Con Z EL y47 y47b 2 y47r (rmm 5 1 4 76) [(vr p1)] ((p1, true, oStringBuilder (vr p2) (vi 0) (vi 1) f_p1_3) :: F) (fun v D' => (∃ a1 : Addr, v = none ∧ (a1, true, ar "[B" .byte [(vi x1.toInt8.toInt32), (vi (x1 >>> ((8 : Int32) &&& 31)).toInt8.toInt32), (vi 0), (vi 0)]) :: (p1, true, oStringBuilder (vr a1) (vi 1) (vi 1) f_p1_3) :: F = D')) := by
  refine Con.of (ls := #[rv p1, uu]) (by decide +kernel) rfl ?_
  refine W.aloadN d46_0 rfl rfl ?_
  refine W.callV (as := []) 0 [] d46_1 (wq hw 167 rfl) (wq hw 125 rfl) (wq hw 127 rfl) (wq hw 127 rfl) (wq hw 126 rfl) (wq hw 71 rfl) (wq hw 128 rfl) (Hp.exa m0) (c30_isLatin1 hw hs (mp1 := m0)) (by decide) pd__Z rfl rfl rfl rfl (by decide) (fun v D' h => ?_)
  obtain ⟨rfl, rfl⟩ := h
  show W _ _ _ _ _ _ _ _ _ _ _ _ 4 _ [(vi 1)]
  refine W.ifY 8 d46_4 (y_ne (by decide)) (by decide) ?_
  refine W.aloadN d46_8 rfl rfl ?_
  refine W.getf d46_9 (wq hw 75 rfl) Via.refl m0 m0 ?_
  refine W.alen (2) d46_12 (mS mp2) rfl ?_
  refine W.callS (as := [(vi 2)]) 0 [] d46_13 (wq hw 233 rfl) (wq hw 195 rfl) (wq hw 145 rfl) (wq hw 196 rfl) (c130_newBytesFor hw hs) (by decide) pd_I__B rfl rfl rfl rfl (by decide) (fun v D' h => ?_)
  obtain ⟨a1, rfl, rfl⟩ := h
  show W _ _ _ _ _ _ _ _ _ _ _ _ 16 _ [(vr a1)]
  refine W.astoreN (ls' := #[rv p1, rv a1]) d46_16 rfl rfl ?_
  refine W.aloadN d46_17 rfl rfl ?_
  refine W.getf d46_18 (wq hw 75 rfl) Via.refl m1 m0 ?_
  refine W.iconst (0) d46_21 (by decide) ?_
  refine W.aloadN d46_22 rfl rfl ?_
  refine W.iconst (0) d46_23 (by decide) ?_
  refine W.aloadN d46_24 rfl rfl ?_
  refine W.getf d46_25 (wq hw 122 rfl) Via.refl m1 m2 ?_
  refine W.callS (as := [(vr p2), (vi 0), (vr a1), (vi 0), (vi 1)]) 0 [] d46_28 (wq hw 234 rfl) (wq hw 235 rfl) (wq hw 91 rfl) (wq hw 236 rfl) (c171_inflate hw hs (hx1 := hx1) (mp1 := (mS mp2))) (by decide) pd__BI_BII_V rfl rfl rfl rfl (by decide) (fun v D' h => ?_)
  obtain ⟨rfl, rfl⟩ := h
  show W _ _ _ _ _ _ _ _ _ _ _ _ 31 _ []
  refine W.aloadN d46_31 rfl rfl ?_
  refine W.aloadN d46_32 rfl rfl ?_
  refine W.putf (D' := (a1, true, ar "[B" .byte [(vi x1.toInt8.toInt32), (vi (x1 >>> ((8 : Int32) &&& 31)).toInt8.toInt32), (vi 0), (vi 0)]) :: (p1, true, oStringBuilder (vr a1) (vi 0) (vi 1) f_p1_3) :: F) 1 0 d46_33 (wq hw 75 rfl) Via.refl rfl rfl (Or.inl (wq hw 76 rfl)) (wq hw 51 rfl) pf_B rfl rfl rfl ?_
  refine W.aloadN d46_36 rfl rfl ?_
  refine W.iconst (1) d46_37 (by decide) ?_
  refine W.putf (D' := (a1, true, ar "[B" .byte [(vi x1.toInt8.toInt32), (vi (x1 >>> ((8 : Int32) &&& 31)).toInt8.toInt32), (vi 0), (vi 0)]) :: (p1, true, oStringBuilder (vr a1) (vi 1) (vi 1) f_p1_3) :: F) 1 1 d46_38 (wq hw 77 rfl) Via.refl rfl rfl (Or.inl (wq hw 78 rfl)) (wq hw 51 rfl) pfB (nw_byte (by decide)) (ft_byte (by decide)) rfl ?_
  exact W.return_ d46_41 rfl (by decide) ⟨a1, rfl, rfl⟩
theorem c177_checkIndex {Z a0} (hw : HW a0 Z) (hs : SF Z) {p1 : Addr} {vs_p1 : List Value} (hvs_p1 : vs_p1.length = 4) {w_p1 : Bool} {ad_p1 : String} {F : List Ent} (mp1 : (p1, w_p1, ar ad_p1 .byte vs_p1) ∈ F) : Con Z EL y48 y48b 2 y48r (rmm 2 0 0 27) [(vi 1), (vr p1)] (F) (fun v D' => (v = none ∧ F = D')) := by
  refine Con.of (ls := #[iv 1, rv p1]) (by decide +kernel) rfl ?_
  refine W.iloadN d50_0 rfl ?_
  refine W.aloadN d50_1 rfl rfl ?_
  refine W.callS (as := [(vr p1)]) 1 [(vi 1)] d50_2 (wq hw 219 rfl) (wq hw 220 rfl) (wq hw 145 rfl) (wq hw 221 rfl) (c165_length hw hs (hvs_p1 := hvs_p1) (mp1 := mp1)) (by decide) pd__B_I rfl rfl rfl rfl (by decide) (fun v D' h => ?_)
  obtain ⟨rfl, rfl⟩ := h
  show W _ _ _ _ _ _ _ _ _ _ _ _ 5 _ [(vi 2), (vi 1)]
  refine W.callS (as := [(vi 1), (vi 2)]) 0 [] d50_5 (wq hw 246 rfl) (wq hw 180 rfl) (wq hw 3 rfl) (wq hw 181 rfl) (c47_checkIndex hw hs (hr0 := by have := q0; have := q1; omega) (hr1 := by have := q1; have := q2; omega)) (by decide) pd_II_V rfl rfl rfl rfl (by decide) (fun v D' h => ?_)
  obtain ⟨rfl, rfl⟩ := h
  show W _ _ _ _ _ _ _ _ _ _ _ _ 8 _ []
  exact W.return_ d50_8 rfl (by decide) ⟨rfl, rfl⟩
theorem c176_putCharSB {Z a0} (hw : HW a0 Z) (hs : SF Z) {p1 : Addr} {x1 : Int32} (hx1 : 0 ≤ x1.toInt ∧ x1.toInt ≤ 65535) {e_p1_0 e_p1_1 : Value} {ad_p1 : String} {F : List Ent} : Con Z EL y49 y49b 3 y49r (rmm 3 0 0 40) [(vr p1), (vi 1), (vi x1)] ((p1, true, ar ad_p1 .byte [e_p1_0, e_p1_1, (vi 0), (vi 0)]) :: F) (fun v D' => (v = none ∧ (p1, true, ar ad_p1 .byte [e_p1_0, e_p1_1, (vi x1.toInt8.toInt32), (vi (x1 >>> ((8 : Int32) &&& 31)).toInt8.toInt32)]) :: F = D')) := by
  refine Con.of (ls := #[rv p1, iv 1, iv x1]) (by decide +kernel) rfl ?_
  refine W.iloadN d49_0 rfl ?_
  refine W.aloadN d49_1 rfl rfl ?_
  refine W.callS (as := [(vi 1), (vr p1)]) 0 [] d49_2 (wq hw 243 rfl) (wq hw 244 rfl) (wq hw 145 rfl) (wq hw 245 rfl) (c177_checkIndex hw hs (hvs_p1 := rfl) (mp1 := m0)) (by decide) pd_I_B_V rfl rfl rfl rfl (by decide) (fun v D' h => ?_)
  obtain ⟨rfl, rfl⟩ := h
  show W _ _ _ _ _ _ _ _ _ _ _ _ 5 _ []
  refine W.aloadN d49_5 rfl rfl ?_
  refine W.iloadN d49_6 rfl ?_
  refine W.iloadN d49_7 rfl ?_
  refine W.callS (as := [(vr p1), (vi 1), (vi x1)]) 0 [] d49_8 (wq hw 201 rfl) (wq hw 202 rfl) (wq hw 145 rfl) (wq hw 203 rfl) (c133_putChar hw hs (hx1 := hx1)) (by decide) pd__BII_V rfl rfl rfl rfl (by decide) (fun v D' h => ?_)
  obtain ⟨rfl, rfl⟩ := h
  show W _ _ _ _ _ _ _ _ _ _ _ _ 11 _ []
  exact W.return_ d49_11 rfl (by decide) ⟨rfl, rfl⟩
theorem c169_append {Z a0} (hw : HW a0 Z) (hs : SF Z) {p1 p2 : Addr} {x1 : Int32} (hx1 : 256 ≤ x1.toInt ∧ x1.toInt ≤ 65535) {x2 : Int32} (hx2 : 0 ≤ x2.toInt ∧ x2.toInt ≤ 255) {f_p1_3 e_p2_1 : Value} {w_p2 : Bool} {ad_p2 : String} {F : List Ent} (mp2 : (p2, w_p2, ar ad_p2 .byte [(vi x2.toInt8.toInt32), e_p2_1]) ∈ F) : Con Z EL y24 y24b 2 y24r (rmm 6 1 4 89) [(vr p1), (vi x1)] ((p1, true, oStringBuilder (vr p2) (vi 0) (vi 1) f_p1_3) :: F) (fun v D' => (∃ a1 : Addr, v = some (vr p1) ∧ (a1, true, ar "[B" .byte [(vi x2.toInt8.toInt32), (vi (x2 >>> ((8 : Int32) &&& 31)).toInt8.toInt32), (vi x1.toInt8.toInt32), (vi (x1 >>> ((8 : Int32) &&& 31)).toInt8.toInt32)]) :: (p1, true, oStringBuilder (vr a1) (vi 1) (vi 2) f_p1_3) :: F = D')) := by
  refine Con.of (ls := #[rv p1, iv x1]) (by decide +kernel) rfl ?_
  refine W.aloadN d27_0 rfl rfl ?_
  refine W.aloadN d27_1 rfl rfl ?_
  refine W.getf d27_2 (wq hw 122 rfl) Via.refl m0 m2 ?_
  refine W.iconst (1) d27_5 (by decide) ?_
  refine W.iaddK (2 : Int32) d27_6 (by decide) ?_
  refine W.callP (as := [(vi 2)]) 0 [] d27_7 (wq hw 162 rfl) (wq hw 163 rfl) (wq hw 165 rfl) (wq hw 164 rfl) (wq hw 71 rfl) (wq hw 166 rfl) (Hp.exa m0) (c150_ensureCapacityInternal hw hs (hvs_p2 := rfl) (mp1 := m0) (mp2 := (mS mp2))) (by decide) pd_I_V rfl rfl rfl rfl (by decide) (fun v D' h => ?_)
  obtain ⟨rfl, rfl⟩ := h
  show W _ _ _ _ _ _ _ _ _ _ _ _ 10 _ []
  refine W.aloadN d27_10 rfl rfl ?_
  refine W.callV (as := []) 0 [] d27_11 (wq hw 167 rfl) (wq hw 125 rfl) (wq hw 127 rfl) (wq hw 127 rfl) (wq hw 126 rfl) (wq hw 71 rfl) (wq hw 128 rfl) (Hp.exa m0) (c30_isLatin1 hw hs (mp1 := m0)) (by decide) pd__Z rfl rfl rfl rfl (by decide) (fun v D' h => ?_)
  obtain ⟨rfl, rfl⟩ := h
  show W _ _ _ _ _ _ _ _ _ _ _ _ 14 _ [(vi 1)]
  refine W.ifN d27_14 (n_eq (by decide)) ?_
  refine W.iloadN d27_17 rfl ?_
  refine W.callS (as := [(vi x1)]) 0 [] d27_18 (wq hw 168 rfl) (wq hw 169 rfl) (wq hw 91 rfl) (wq hw 170 rfl) (c67_canEncode hw hs (hx1 := hx1)) (by decide) pd_C_Z rfl rfl rfl rfl (by decide) (fun v D' h => ?_)
  obtain ⟨rfl, rfl⟩ := h
  show W _ _ _ _ _ _ _ _ _ _ _ _ 21 _ [(vi 0)]
  refine W.ifY 45 d27_21 (y_eq (by decide)) (by decide) ?_
  refine W.aloadN d27_45 rfl rfl ?_
  refine W.callV (as := []) 0 [] d27_46 (wq hw 167 rfl) (wq hw 125 rfl) (wq hw 127 rfl) (wq hw 127 rfl) (wq hw 126 rfl) (wq hw 71 rfl) (wq hw 128 rfl) (Hp.exa m0) (c30_isLatin1 hw hs (mp1 := m0)) (by decide) pd__Z rfl rfl rfl rfl (by decide) (fun v D' h => ?_)
  obtain ⟨rfl, rfl⟩ := h
  show W _ _ _ _ _ _ _ _ _ _ _ _ 49 _ [(vi 1)]
  refine W.ifN d27_49 (n_eq (by decide)) ?_
  refine W.aloadN d27_52 rfl rfl ?_
  refine W.callP (as := []) 0 [] d27_53 (wq hw 228 rfl) (wq hw 229 rfl) (wq hw 231 rfl) (wq hw 230 rfl) (wq hw 71 rfl) (wq hw 232 rfl) (Hp.exa m0) (c170_inflate hw hs (hx1 := hx2) (mp2 := mp2)) (by decide) pd__V rfl rfl rfl rfl (by decide) (fun v D' h => ?_)
  obtain ⟨a1, rfl, rfl⟩ := h
  show W _ _ _ _ _ _ _ _ _ _ _ _ 56 _ []
  refine W.aloadN d27_56 rfl rfl ?_
  refine W.getf d27_57 (wq hw 75 rfl) Via.refl m1 m0 ?_
  refine W.aloadN d27_60 rfl rfl ?_
  refine W.dup d27_61 rfl ?_
  refine W.getf d27_62 (wq hw 122 rfl) Via.refl m1 m2 ?_
  refine W.dupX1 d27_65 rfl rfl ?_
  refine W.iconst (1) d27_66 (by decide) ?_
  refine W.iaddK (2 : Int32) d27_67 (by decide) ?_
  refine W.putf (D' := (a1, true, ar "[B" .byte [(vi x2.toInt8.toInt32), (vi (x2 >>> ((8 : Int32) &&& 31)).toInt8.toInt32), (vi 0), (vi 0)]) :: (p1, true, oStringBuilder (vr a1) (vi 1) (vi 2) f_p1_3) :: F) 1 2 d27_68 (wq hw 122 rfl) Via.refl rfl rfl (Or.inl (wq hw 123 rfl)) (wq hw 51 rfl) pfI rfl rfl rfl ?_
  refine W.iloadN d27_71 rfl ?_
  refine W.callS (as := [(vr a1), (vi 1), (vi x1)]) 0 [] d27_72 (wq hw 240 rfl) (wq hw 241 rfl) (wq hw 145 rfl) (wq hw 242 rfl) (c176_putCharSB hw hs (hx1 := (by omega))) (by decide) pd__BII_V rfl rfl rfl rfl (by decide) (fun v D' h => ?_)
  obtain ⟨rfl, rfl⟩ := h
  show W _ _ _ _ _ _ _ _ _ _ _ _ 75 _ []
  refine W.aloadN d27_75 rfl rfl ?_
  exact W.areturn d27_76 rfl rfl rfl (by decide) ⟨a1, rfl, rfl⟩
theorem c168_append {Z a0} (hw : HW a0 Z) (hs : SF Z) {p1 p2 : Addr} {x1 : Int32} (hx1 : 256 ≤ x1.toInt ∧ x1.toInt ≤ 65535) {x2 : Int32} (hx2 : 0 ≤ x2.toInt ∧ x2.toInt ≤ 255) {f_p1_3 e_p2_1 : Value} {w_p2 : Bool} {ad_p2 : String} {F : List Ent} (mp2 : (p2, w_p2, ar ad_p2 .byte [(vi x2.toInt8.toInt32), e_p2_1]) ∈ F) : Con Z EL y25 y25b 2 y25r (rmm 7 1 4 102) [(vr p1), (vi x1)] ((p1, true, oStringBuilder (vr p2) (vi 0) (vi 1) f_p1_3) :: F) (fun v D' => (∃ a1 : Addr, v = some (vr p1) ∧ (a1, true, ar "[B" .byte [(vi x2.toInt8.toInt32), (vi (x2 >>> ((8 : Int32) &&& 31)).toInt8.toInt32), (vi x1.toInt8.toInt32), (vi (x1 >>> ((8 : Int32) &&& 31)).toInt8.toInt32)]) :: (p1, true, oStringBuilder (vr a1) (vi 1) (vi 2) f_p1_3) :: F = D')) := by
  refine Con.of (ls := #[rv p1, iv x1]) (by decide +kernel) rfl ?_
  refine W.aloadN d26_0 rfl rfl ?_
  refine W.iloadN d26_1 rfl ?_
  refine W.callUp (as := [(vi x1)]) 0 [] d26_2 (wq hw 158 rfl) (same_self (by rfl) (by decide) (wq hw 159 rfl) (wq hw 110 rfl) (wq hw 111 rfl)) (wq hw 159 rfl) (wq hw 120 rfl) (by decide) (wq hw 71 rfl) (wq hw 161 rfl) (Hp.ins m0) (c169_append hw hs (hx1 := hx1) (hx2 := hx2) (mp2 := mp2)) pd_C_Ljava_lang_AbstractStringBuilder_ rfl rfl rfl rfl (by decide) (fun v D' h => ?_)
  obtain ⟨a1, rfl, rfl⟩ := h
  show W _ _ _ _ _ _ _ _ _ _ _ _ 5 _ [(vr p1)]
  refine W.popv d26_5 rfl ?_
  refine W.aloadN d26_6 rfl rfl ?_
  exact W.areturn d26_7 rfl rfl rfl (by decide) ⟨a1, rfl, rfl⟩
theorem c181_copyOfRange {Z a0} (hw : HW a0 Z) (hs : SF Z) {p1 : Addr} {x1 : Int32} (hx1 : 0 ≤ x1.toInt ∧ x1.toInt ≤ 255) {x2 : Int32} (hx2 : 256 ≤ x2.toInt ∧ x2.toInt ≤ 65535) {w_p1 : Bool} {F : List Ent} (mp1 : (p1, w_p1, ar "[B" .byte [(vi x1.toInt8.toInt32), (vi (x1 >>> ((8 : Int32) &&& 31)).toInt8.toInt32), (vi x2.toInt8.toInt32), (vi (x2 >>> ((8 : Int32) &&& 31)).toInt8.toInt32)]) ∈ F) : Con Z EL y29 y29b 3 y29r (rmm 1 1 4 14) [(vr p1), (vi 0), (vi 4)] (F) (fun v D' => (∃ a1 : Addr, v = some (vr a1) ∧ (a1, true, ar "[B" .byte [(vi x1.toInt8.toInt32), (vi (x1 >>> ((8 : Int32) &&& 31)).toInt8.toInt32), (vi x2.toInt8.toInt32), (vi (x2 >>> ((8 : Int32) &&& 31)).toInt8.toInt32)]) :: F = D')) := by
  refine Con.of (ls := #[rv p1, iv 0, iv 4]) (by decide +kernel) rfl ?_
  refine W.iloadN d22_0 rfl ?_
  refine W.ifN d22_1 (n_ne (by decide)) ?_
  refine W.iloadN d22_4 rfl ?_
  refine W.aloadN d22_5 rfl rfl ?_
  refine W.alen (4) d22_6 mp1 rfl ?_
  refine W.icmpY 17 d22_7 (y_eq (by decide)) (by decide) ?_
  refine W.aloadN d22_17 rfl rfl ?_
  refine W.clone 0 4 d22_18 (wq hw 133 rfl) (wq hw 134 rfl) (wq hw 138 rfl) (wq hw 136 rfl) (wq hw 137 rfl) (wq hw 139 rfl) mp1 (by decide) rfl rfl rfl (by decide) (fun a1 => ?_)
  show W _ _ _ _ _ _ _ _ _ _ _ _ 21 _ [(vr a1)]
  refine W.castY d22_21 (wq hw 140 rfl) (Hp.insA m0 (by decide)) ?_
  exact W.areturn d22_24 rfl rfl rfl (by decide) ⟨a1, rfl, rfl⟩
theorem c180_init {Z a0} (hw : HW a0 Z) (hs : SF Z) {p1 p2 p3 : Addr} {x1 : Int32} (hx1 : 0 ≤ x1.toInt ∧ x1.toInt ≤ 255) {x2 : Int32} (hx2 : 256 ≤ x2.toInt ∧ x2.toInt ≤ 65535) {w_p2 : Bool} {w_p3 : Bool} {F : List Ent} (mp2 : (p2, w_p2, oStringBuilder (vr p3) (vi 1) (vi 2) (vi 0)) ∈ F) (mp3 : (p3, w_p3, ar "[B" .byte [(vi x1.toInt8.toInt32), (vi (x1 >>> ((8 : Int32) &&& 31)).toInt8.toInt32), (vi x2.toInt8.toInt32), (vi (x2 >>> ((8 : Int32) &&& 31)).toInt8.toInt32)]) ∈ F) : Con Z EL y30 y30b 5 y30r (rmm 2 1 4 29) [(vr p1), (vr p2), .null] ((p1, true, oString .null (vi 0)) :: F) (fun v D' => (∃ a1 : Addr, v = none ∧ (a1, true, ar "[B" .byte [(vi x1.toInt8.toInt32), (vi (x1 >>> ((8 : Int32) &&& 31)).toInt8.toInt32), (vi x2.toInt8.toInt32), (vi (x2 >>> ((8 : Int32) &&& 31)).toInt8.toInt32)]) :: (p1, true, oString (vr a1) (vi 1)) :: F = D')) := by
  refine Con.of (ls := #[rv p1, rv p2, .val .null, uu, uu]) (by decide +kernel) rfl ?_
  refine W.aloadN d17_0 rfl rfl ?_
  refine W.initO 0 d17_1 (wq hw 11 rfl) (wq hw 12 rfl) (wq hw 13 rfl) rfl rfl (by decide) ?_
  refine W.aloadN d17_4 rfl rfl ?_
  refine W.callV (as := []) 0 [] d17_5 (wq hw 108 rfl) (wq hw 109 rfl) (wq hw 111 rfl) (wq hw 111 rfl) (wq hw 110 rfl) (wq hw 71 rfl) (wq hw 112 rfl) (Hp.exa (mS mp2)) (c41_getValue hw hs (mp1 := (mS mp2))) (by decide) pd___B rfl rfl rfl rfl (by decide) (fun v D' h => ?_)
  obtain ⟨rfl, rfl⟩ := h
  show W _ _ _ _ _ _ _ _ _ _ _ _ 8 _ [(vr p3)]
  refine W.astoreN (ls' := #[rv p1, rv p2, .val .null, rv p3, uu]) d17_8 rfl rfl ?_
  refine W.aloadN d17_9 rfl rfl ?_
  refine W.callVN (as := []) 0 [] d17_10 (wq hw 113 rfl) (wq hw 114 rfl) (by rfl) (wq hw 110 rfl) (wq hw 111 rfl) (wq hw 116 rfl) (wq hw 117 rfl) (wq hw 52 rfl) (wq hw 118 rfl) (Hp.exa (mS mp2)) (c42_length hw hs (mp1 := (mS mp2))) (by decide) pd__I rfl rfl rfl rfl (by decide) (fun v D' h => ?_)
  obtain ⟨rfl, rfl⟩ := h
  show W _ _ _ _ _ _ _ _ _ _ _ _ 13 _ [(vi 2)]
  refine W.istore (ls' := #[rv p1, rv p2, .val .null, rv p3, iv 2]) d17_13 rfl ?_
  refine W.aloadN d17_15 rfl rfl ?_
  refine W.callV (as := []) 0 [] d17_16 (wq hw 124 rfl) (wq hw 125 rfl) (wq hw 127 rfl) (wq hw 127 rfl) (wq hw 126 rfl) (wq hw 71 rfl) (wq hw 128 rfl) (Hp.exa (mS mp2)) (c79_isLatin1 hw hs (mp1 := (mS mp2))) (by decide) pd__Z rfl rfl rfl rfl (by decide) (fun v D' h => ?_)
  obtain ⟨rfl, rfl⟩ := h
  show W _ _ _ _ _ _ _ _ _ _ _ _ 19 _ [(vi 0)]
  refine W.ifY 41 d17_19 (y_eq (by decide)) (by decide) ?_
  refine W.gets d17_41 (wq hw 63 rfl) Via.refl hs.1 ?_
  refine W.ifN d17_44 (n_eq (by have := hs.2.1; have := q0; omega)) ?_
  refine W.aloadN d17_47 rfl rfl ?_
  refine W.getf d17_48 (wq hw 247 rfl) Via.refl (mS mp2) m3 ?_
  refine W.ifY 79 d17_51 (y_eq (by decide)) (by decide) ?_
  refine W.aloadN d17_79 rfl rfl ?_
  refine W.iconst (1) d17_80 (by decide) ?_
  refine W.putf (D' := (p1, true, oString .null (vi 1)) :: F) 0 1 d17_81 (wq hw 21 rfl) Via.refl rfl rfl (Or.inr ⟨(wq hw 17 rfl), rfl, rfl⟩) (wq hw 2 rfl) pfB (nw_byte (by decide)) (ft_byte (by decide)) rfl ?_
  refine W.aloadN d17_84 rfl rfl ?_
  refine W.aloadN d17_85 rfl rfl ?_
  refine W.iconst (0) d17_86 (by decide) ?_
  refine W.iload d17_87 rfl ?_
  refine W.iconst (1) d17_89 (by decide) ?_
  refine W.ishlK (4 : Int32) d17_90 (by decide) ?_
  refine W.callS (as := [(vr p3), (vi 0), (vi 4)]) 1 [(vr p1)] d17_91 (wq hw 129 rfl) (wq hw 130 rfl) (wq hw 131 rfl) (wq hw 132 rfl) (c181_copyOfRange hw hs (hx1 := hx1) (hx2 := hx2) (mp1 := (mS mp3))) (by decide) pd__BII__B rfl rfl rfl rfl (by decide) (fun v D' h => ?_)
  obtain ⟨a1, rfl, rfl⟩ := h
  show W _ _ _ _ _ _ _ _ _ _ _ _ 94 _ [(vr a1), (vr p1)]
  refine W.putf (D' := (a1, true, ar "[B" .byte [(vi x1.toInt8.toInt32), (vi (x1 >>> ((8 : Int32) &&& 31)).toInt8.toInt32), (vi x2.toInt8.toInt32), (vi (x2 >>> ((8 : Int32) &&& 31)).toInt8.toInt32)]) :: (p1, true, oString (vr a1) (vi 1)) :: F) 1 0 d17_94 (wq hw 20 rfl) Via.refl rfl rfl (Or.inr ⟨(wq hw 16 rfl), rfl, rfl⟩) (wq hw 2 rfl) pf_B rfl rfl rfl ?_
  exact W.return_ d17_97 rfl (by decide) ⟨a1, rfl, rfl⟩
theorem c179_init {Z a0} (hw : HW a0 Z) (hs : SF Z) {p1 p2 p3 : Addr} {x1 : Int32} (hx1 : 0 ≤ x1.toInt ∧ x1.toInt ≤ 255) {x2 : Int32} (hx2 : 256 ≤ x2.toInt ∧ x2.toInt ≤ 65535) {w_p2 : Bool} {w_p3 : Bool} {F : List Ent} (mp2 : (p2, w_p2, oStringBuilder (vr p3) (vi 1) (vi 2) (vi 0)) ∈ F) (mp3 : (p3, w_p3, ar "[B" .byte [(vi x1.toInt8.toInt32), (vi (x1 >>> ((8 : Int32) &&& 31)).toInt8.toInt32), (vi x2.toInt8.toInt32), (vi (x2 >>> ((8 : Int32) &&& 31)).toInt8.toInt32)]) ∈ F) : Con Z EL y31 y31b 2 y31r (rmm 3 1 4 45) [(vr p1), (vr p2)] ((p1, true, oString .null (vi 0)) :: F) (fun v D' => (∃ a1 : Addr, v = none ∧ (a1, true, ar "[B" .byte [(vi x1.toInt8.toInt32), (vi (x1 >>> ((8 : Int32) &&& 31)).toInt8.toInt32), (vi x2.toInt8.toInt32), (vi (x2 >>> ((8 : Int32) &&& 31)).toInt8.toInt32)]) :: (p1, true, oString (vr a1) (vi 1)) :: F = D')) := by
  refine Con.of (ls := #[rv p1, rv p2]) (by decide +kernel) rfl ?_
  refine W.aloadN d16_0 rfl rfl ?_
  refine W.aloadN d16_1 rfl rfl ?_
  refine W.aconstNull d16_2 ?_
  refine W.callI (as := [(vr p2), .null]) 0 [] d16_3 rfl (wq hw 105 rfl) (wq hw 106 rfl) (wq hw 3 rfl) (wq hw 107 rfl) (c180_init hw hs (hx1 := hx1) (hx2 := hx2) (mp2 := mp2) (mp3 := mp3)) (by decide) pd_Ljava_lang_AbstractStringBuilder_Ljava_lang_Void__V rfl rfl rfl rfl (by decide) (fun v D' h => ?_)
  obtain ⟨a1, rfl, rfl⟩ := h
  show W _ _ _ _ _ _ _ _ _ _ _ _ 6 _ []
  exact W.return_ d16_6 rfl (by decide) ⟨a1, rfl, rfl⟩
theorem c178_toString {Z a0} (hw : HW a0 Z) (hs : SF Z) {p1 p2 : Addr} {x1 : Int32} (hx1 : 0 ≤ x1.toInt ∧ x1.toInt ≤ 255) {x2 : Int32} (hx2 : 256 ≤ x2.toInt ∧ x2.toInt ≤ 65535) {w_p1 : Bool} {w_p2 : Bool} {F : List Ent} (mp1 : (p1, w_p1, oStringBuilder (vr p2) (vi 1) (vi 2) (vi 0)) ∈ F) (mp2 : (p2, w_p2, ar "[B" .byte [(vi x1.toInt8.toInt32), (vi (x1 >>> ((8 : Int32) &&& 31)).toInt8.toInt32), (vi x2.toInt8.toInt32), (vi (x2 >>> ((8 : Int32) &&& 31)).toInt8.toInt32)]) ∈ F) : Con Z EL y32 y32b 1 y32r (rmm 4 2 8 59) [(vr p1)] (F) (fun v D' => (∃ a1 a2 : Addr, v = some (vr a1) ∧ (a2, true, ar "[B" .byte [(vi x1.toInt8.toInt32), (vi (x1 >>> ((8 : Int32) &&& 31)).toInt8.toInt32), (vi x2.toInt8.toInt32), (vi (x2 >>> ((8 : Int32) &&& 31)).toInt8.toInt32)]) :: (a1, true, oString (vr a2) (vi 1)) :: F = D')) := by
  refine Con.of (ls := #[rv p1]) (by decide +kernel) rfl ?_
  refine W.new d15_0 (wq hw 101 rfl) (wq hw 2 rfl) (wq hw 3 rfl) (laString hw) (by decide) (by decide) (fun a1 => ?_)
  show W _ _ _ _ _ _ _ _ _ _ _ _ 3 _ [(vr a1)]
  refine W.dup d15_3 rfl ?_
  refine W.aloadN d15_4 rfl rfl ?_
  refine W.callI (as := [(vr p1)]) 1 [(vr a1)] d15_5 rfl (wq hw 102 rfl) (wq hw 103 rfl) (wq hw 3 rfl) (wq hw 104 rfl) (c179_init hw hs (hx1 := hx1) (hx2 := hx2) (mp2 := mp1) (mp3 := mp2)) (by decide) pd_Ljava_lang_StringBuilder__V rfl rfl rfl rfl (by decide) (fun v D' h => ?_)
  obtain ⟨a2, rfl, rfl⟩ := h
  show W _ _ _ _ _ _ _ _ _ _ _ _ 8 _ [(vr a1)]
  exact W.areturn d15_8 rfl rfl rfl (by decide) ⟨a1, a2, rfl, rfl⟩
theorem c159_lowerCase {Z a0} (hw : HW a0 Z) (hs : SF Z) {p1 p2 p3 : Addr} {x2 : Int32} (hx2 : 0 ≤ x2.toInt ∧ x2.toInt ≤ 255) {x3 : Int32} (hx3 : 256 ≤ x3.toInt ∧ x3.toInt ≤ 65535) {f_p1_0 f_p1_2 f_p1_3 : Value} {w_p1 : Bool} {w_p2 : Bool} {w_p3 : Bool} {ad_p3 : String} {F : List Ent} (mp1 : (p1, w_p1, oJdqlLexer_Token f_p1_0 (vr p2) f_p1_2 f_p1_3) ∈ F) (mp2 : (p2, w_p2, oString (vr p3) (vi 1)) ∈ F) (mp3 : (p3, w_p3, ar ad_p3 .byte [(vi x2.toInt8.toInt32), (vi (x2 >>> ((8 : Int32) &&& 31)).toInt8.toInt32), (vi x3.toInt8.toInt32), (vi (x3 >>> ((8 : Int32) &&& 31)).toInt8.toInt32)]) ∈ F) : Con Z EL y33 y33b 6 y33r (rmm 8 6 20 115) [(vr p1)] (F) (fun v D' => (∃ a9 a10 : Addr, v = some (vr a9) ∧ (a10, true, ar "[B" .byte [(vi (lc x2).toInt8.toInt32), (vi ((lc x2) >>> ((8 : Int32) &&& 31)).toInt8.toInt32), (vi (lc x3).toInt8.toInt32), (vi ((lc x3) >>> ((8 : Int32) &&& 31)).toInt8.toInt32)]) :: (a9, true, oString (vr a10) (vi 1)) :: F = D')) := by
  refine Con.of (ls := #[rv p1, uu, uu, uu, uu, uu]) (by decide +kernel) rfl ?_
  refine W.new d6_0 (wq hw 50 rfl) (wq hw 51 rfl) (wq hw 52 rfl) (laStringBuilder hw) (by decide) (by decide) (fun a1 => ?_)
  show W _ _ _ _ _ _ _ _ _ _ _ _ 3 _ [(vr a1)]
  refine W.dup d6_3 rfl ?_
  refine W.aloadN d6_4 rfl rfl ?_
  refine W.getf d6_5 (wq hw 39 rfl) Via.refl (mS mp1) m1 ?_
  refine W.callV (as := []) 2 [(vr a1), (vr a1)] d6_8 (wq hw 53 rfl) (wq hw 54 rfl) (wq hw 56 rfl) (wq hw 56 rfl) (wq hw 55 rfl) (wq hw 3 rfl) (wq hw 57 rfl) (Hp.exa (mS mp2)) (c160_length hw hs (hvs_p2 := rfl) (mp1 := (mS mp2)) (mp2 := (mS mp3))) (by decide) pd__I rfl rfl rfl rfl (by decide) (fun v D' h => ?_)
  obtain ⟨rfl, rfl⟩ := h
  show W _ _ _ _ _ _ _ _ _ _ _ _ 11 _ [(vi 2), (vr a1), (vr a1)]
  refine W.callI (as := [(vi 2)]) 1 [(vr a1)] d6_11 rfl (wq hw 64 rfl) (wq hw 65 rfl) (wq hw 52 rfl) (wq hw 66 rfl) (c140_init hw hs) (by decide) pd_I_V rfl rfl rfl rfl (by decide) (fun v D' h => ?_)
  obtain ⟨a2, rfl, rfl⟩ := h
  show W _ _ _ _ _ _ _ _ _ _ _ _ 14 _ [(vr a1)]
  refine W.astoreN (ls' := #[rv p1, rv a1, uu, uu, uu, uu]) d6_14 rfl rfl ?_
  refine W.aloadN d6_15 rfl rfl ?_
  refine W.getf d6_16 (wq hw 39 rfl) Via.refl (mS (mS mp1)) m1 ?_
  refine W.callV (as := []) 0 [] d6_19 (wq hw 79 rfl) (wq hw 80 rfl) (wq hw 82 rfl) (wq hw 82 rfl) (wq hw 81 rfl) (wq hw 3 rfl) (wq hw 83 rfl) (Hp.exa (mS (mS mp2))) (c161_toCharArray hw hs (hx1 := (by omega)) (hx2 := (by omega)) (mp1 := (mS (mS mp2))) (mp2 := (mS (mS mp3)))) (by decide) pd___C rfl rfl rfl rfl (by decide) (fun v D' h => ?_)
  obtain ⟨a3, rfl, rfl⟩ := h
  show W _ _ _ _ _ _ _ _ _ _ _ _ 22 _ [(vr a3)]
  refine W.astoreN (ls' := #[rv p1, rv a1, rv a3, uu, uu, uu]) d6_22 rfl rfl ?_
  refine W.aloadN d6_23 rfl rfl ?_
  refine W.alen (2) d6_24 m0 rfl ?_
  refine W.istoreN (ls' := #[rv p1, rv a1, rv a3, iv 2, uu, uu]) d6_25 rfl ?_
  refine W.iconst (0) d6_26 (by decide) ?_
  refine W.istore (ls' := #[rv p1, rv a1, rv a3, iv 2, iv 0, uu]) d6_27 rfl ?_
  refine W.iload d6_29 rfl ?_
  refine W.iloadN d6_31 rfl ?_
  refine W.icmpN d6_32 (n_ge (by decide)) ?_
  refine W.aloadN d6_35 rfl rfl ?_
  refine W.iload d6_36 rfl ?_
  refine W.caload 0 d6_38 m0 ix0 rfl ?_
  refine W.istore (ls' := #[rv p1, rv a1, rv a3, iv 2, iv 0, iv x2]) d6_39 rfl ?_
  refine W.aloadN d6_41 rfl rfl ?_
  have K5 : W Z EL (rmm 8 6 20 115) "com/example/rochester/rochester/JdqlLexer$Token" "lowerCase" prog_12_method_5_code 6 (Option.some (Jvm.ClassFile.FieldType.object "java/lang/String")) (fun v D' => (∃ a9 a10 : Addr, v = some (vr a9) ∧ (a10, true, ar "[B" .byte [(vi (lc x2).toInt8.toInt32), (vi ((lc x2) >>> ((8 : Int32) &&& 31)).toInt8.toInt32), (vi (lc x3).toInt8.toInt32), (vi ((lc x3) >>> ((8 : Int32) &&& 31)).toInt8.toInt32)]) :: (a9, true, oString (vr a10) (vi 1)) :: F = D')) ((a3, true, ar "[C" .char [(vi x2), (vi x3)]) :: (a2, true, ar "[B" .byte [(vi 0), (vi 0)]) :: (a1, true, oStringBuilder (vr a2) (vi 0) (vi 0) (vi 0)) :: F) 3 8 70 #[rv p1, rv a1, rv a3, iv 2, iv 0, iv x2] [(vi (lc x2)), (vr a1)] := by
   refine W.front 1 (D' := (a2, true, ar "[B" .byte [(vi 0), (vi 0)]) :: (a3, true, ar "[C" .char [(vi x2), (vi x3)]) :: (a1, true, oStringBuilder (vr a2) (vi 0) (vi 0) (vi 0)) :: F) rfl rfl ?_
   refine W.front 2 (D' := (a1, true, oStringBuilder (vr a2) (vi 0) (vi 0) (vi 0)) :: (a2, true, ar "[B" .byte [(vi 0), (vi 0)]) :: (a3, true, ar "[C" .char [(vi x2), (vi x3)]) :: F) rfl rfl ?_
   refine W.callV (as := [(vi (lc x2))]) 0 [] d6_70 (wq hw 153 rfl) (wq hw 154 rfl) (wq hw 156 rfl) (wq hw 156 rfl) (wq hw 155 rfl) (wq hw 52 rfl) (wq hw 157 rfl) (Hp.exa m0) (c145_append hw hs (hx1 := (by have := a_lc x2; omega))) (by decide) pd_C_Ljava_lang_StringBuilder_ rfl rfl rfl rfl (by decide) (fun v D' h => ?_)
   obtain ⟨rfl, rfl⟩ := h
   show W _ _ _ _ _ _ _ _ _ _ _ _ 73 _ [(vr a1)]
   refine W.popv d6_73 rfl ?_
   refine W.iincK (ls' := #[rv p1, rv a1, rv a3, iv 2, iv 1, iv x2]) (1) (1 : Int32) d6_74 (by decide) rfl (by decide) rfl ?_
   refine W.goto 29 d6_77 (by decide) ?_
   refine W.iload d6_29 rfl ?_
   refine W.iloadN d6_31 rfl ?_
   refine W.icmpN d6_32 (n_ge (by decide)) ?_
   refine W.aloadN d6_35 rfl rfl ?_
   refine W.iload d6_36 rfl ?_
   refine W.caload 1 d6_38 m2 ix1 rfl ?_
   refine W.istore (ls' := #[rv p1, rv a1, rv a3, iv 2, iv 1, iv x3]) d6_39 rfl ?_
   refine W.aloadN d6_41 rfl rfl ?_
   have K7 : W Z EL (rmm 8 6 20 115) "com/example/rochester/rochester/JdqlLexer$Token" "lowerCase" prog_12_method_5_code 6 (Option.some (Jvm.ClassFile.FieldType.object "java/lang/String")) (fun v D' => (∃ a9 a10 : Addr, v = some (vr a9) ∧ (a10, true, ar "[B" .byte [(vi (lc x2).toInt8.toInt32), (vi ((lc x2) >>> ((8 : Int32) &&& 31)).toInt8.toInt32), (vi (lc x3).toInt8.toInt32), (vi ((lc x3) >>> ((8 : Int32) &&& 31)).toInt8.toInt32)]) :: (a9, true, oString (vr a10) (vi 1)) :: F = D')) ((a1, true, oStringBuilder (vr a2) (vi 0) (vi 1) (vi 0)) :: (a2, true, ar "[B" .byte [(vi (lc x2).toInt8.toInt32), (vi 0)]) :: (a3, true, ar "[C" .char [(vi x2), (vi x3)]) :: F) 3 8 70 #[rv p1, rv a1, rv a3, iv 2, iv 1, iv x3] [(vi (lc x3)), (vr a1)] := by
    refine W.callV (as := [(vi (lc x3))]) 0 [] d6_70 (wq hw 153 rfl) (wq hw 154 rfl) (wq hw 156 rfl) (wq hw 156 rfl) (wq hw 155 rfl) (wq hw 52 rfl) (wq hw 157 rfl) (Hp.exa m0) (c168_append hw hs (hx1 := (by have := a_lc x3; omega)) (hx2 := (by have := a_lc x2; omega)) (mp2 := m0)) (by decide) pd_C_Ljava_lang_StringBuilder_ rfl rfl rfl rfl (by decide) (fun v D' h => ?_)
    obtain ⟨a8, rfl, rfl⟩ := h
    show W _ _ _ _ _ _ _ _ _ _ _ _ 73 _ [(vr a1)]
    refine W.popv d6_73 rfl ?_
    refine W.iincK (ls' := #[rv p1, rv a1, rv a3, iv 2, iv 2, iv x3]) (1) (2 : Int32) d6_74 (by decide) rfl (by decide) rfl ?_
    refine W.goto 29 d6_77 (by decide) ?_
    refine W.iload d6_29 rfl ?_
    refine W.iloadN d6_31 rfl ?_
    refine W.icmpY 80 d6_32 (y_ge (by decide)) (by decide) ?_
    refine W.aloadN d6_80 rfl rfl ?_
    refine W.callV (as := []) 0 [] d6_81 (wq hw 96 rfl) (wq hw 97 rfl) (wq hw 99 rfl) (wq hw 99 rfl) (wq hw 98 rfl) (wq hw 52 rfl) (wq hw 100 rfl) (Hp.exa m1) (c178_toString hw hs (hx1 := (by have := a_lc x2; omega)) (hx2 := (by have := a_lc x3; omega)) (mp1 := m1) (mp2 := m0)) (by decide) pd__Ljava_lang_String_ rfl rfl rfl rfl (by decide) (fun v D' h => ?_)
    obtain ⟨a9, a10, rfl, rfl⟩ := h
    show W _ _ _ _ _ _ _ _ _ _ _ _ 84 _ [(vr a9)]
    refine W.dropAt 2 (D' := (a10, true, ar "[B" .byte [(vi (lc x2).toInt8.toInt32), (vi ((lc x2) >>> ((8 : Int32) &&& 31)).toInt8.toInt32), (vi (lc x3).toInt8.toInt32), (vi ((lc x3) >>> ((8 : Int32) &&& 31)).toInt8.toInt32)]) :: (a9, true, oString (vr a10) (vi 1)) :: (a1, true, oStringBuilder (vr a8) (vi 1) (vi 2) (vi 0)) :: (a2, true, ar "[B" .byte [(vi (lc x2).toInt8.toInt32), (vi 0)]) :: (a3, true, ar "[C" .char [(vi x2), (vi x3)]) :: F) rfl ?_
    refine W.dropAt 2 (D' := (a10, true, ar "[B" .byte [(vi (lc x2).toInt8.toInt32), (vi ((lc x2) >>> ((8 : Int32) &&& 31)).toInt8.toInt32), (vi (lc x3).toInt8.toInt32), (vi ((lc x3) >>> ((8 : Int32) &&& 31)).toInt8.toInt32)]) :: (a9, true, oString (vr a10) (vi 1)) :: (a2, true, ar "[B" .byte [(vi (lc x2).toInt8.toInt32), (vi 0)]) :: (a3, true, ar "[C" .char [(vi x2), (vi x3)]) :: F) rfl ?_
    refine W.dropAt 2 (D' := (a10, true, ar "[B" .byte [(vi (lc x2).toInt8.toInt32), (vi ((lc x2) >>> ((8 : Int32) &&& 31)).toInt8.toInt32), (vi (lc x3).toInt8.toInt32), (vi ((lc x3) >>> ((8 : Int32) &&& 31)).toInt8.toInt32)]) :: (a9, true, oString (vr a10) (vi 1)) :: (a3, true, ar "[C" .char [(vi x2), (vi x3)]) :: F) rfl ?_
    refine W.dropAt 2 (D' := (a10, true, ar "[B" .byte [(vi (lc x2).toInt8.toInt32), (vi ((lc x2) >>> ((8 : Int32) &&& 31)).toInt8.toInt32), (vi (lc x3).toInt8.toInt32), (vi ((lc x3) >>> ((8 : Int32) &&& 31)).toInt8.toInt32)]) :: (a9, true, oString (vr a10) (vi 1)) :: F) rfl ?_
    exact W.areturn d6_84 rfl rfl rfl (by decide) ⟨a9, a10, rfl, rfl⟩
   refine W.iload d6_42 rfl ?_
   refine W.bipush (65) d6_44 (by decide) ?_
   refine W.icmpN d6_46 (n_lt (by have := q65; omega)) ?_
   refine W.iload d6_49 rfl ?_
   refine W.bipush (90) d6_51 (by decide) ?_
   refine W.icmpY 68 d6_53 (y_gt (by have := q90; omega)) (by decide) ?_
   refine W.iload d6_68 rfl ?_
   refine W.top (y := (lc x3)) (lc_of (by omega)) ?_
   exact W.mono (by decide) (by decide) (K7  )
  refine W.iload d6_42 rfl ?_
  refine W.bipush (65) d6_44 (by decide) ?_
  refine W.icmp 68 d6_46 (by decide) (fun h1 => ?_) (fun h1 => ?_)
  ·
   have ih1 := t_lt h1
   refine W.iload d6_68 rfl ?_
   refine W.top (y := (lc x2)) (lc_of (by have := q65; omega)) ?_
   exact W.mono (by decide) (by decide) (K5  )
  ·
   have ih1 := f_lt h1
   refine W.iload d6_49 rfl ?_
   refine W.bipush (90) d6_51 (by decide) ?_
   refine W.icmp 68 d6_53 (by decide) (fun h2 => ?_) (fun h2 => ?_)
   ·
    have ih2 := t_gt h2
    refine W.iload d6_68 rfl ?_
    refine W.top (y := (lc x2)) (lc_of (by have := q65; have := q90; omega)) ?_
    exact W.mono (by decide) (by decide) (K5  )
   ·
    have ih2 := f_gt h2
    refine W.iload d6_56 rfl ?_
    refine W.bipush (65) d6_58 (by decide) ?_
    refine W.isub d6_60 ?_
    refine W.bipush (97) d6_61 (by decide) ?_
    refine W.iadd d6_63 ?_
    refine W.i2cK ((x2 - (65 : Int32)) + (97 : Int32)) d6_64 (z_i2c (by have := q65; have := a_sub x2 (65 : Int32); have := q97; have := a_add (x2 - (65 : Int32)) (97 : Int32); have := q90; omega)) ?_
    refine W.goto 70 d6_65 (by decide) ?_
    refine W.top (y := (lc x2)) (lc_of (by have := q65; have := a_sub x2 (65 : Int32); have := q97; have := a_add (x2 - (65 : Int32)) (97 : Int32); have := q90; omega)) ?_
    exact W.mono (by decide) (by decide) (K5  )
theorem c184_checkIndex {Z a0} (hw : HW a0 Z) (hs : SF Z) {p1 : Addr} {vs_p1 : List Value} (hvs_p1 : vs_p1.length = 4) {w_p1 : Bool} {ad_p1 : String} {F : List Ent} (mp1 : (p1, w_p1, ar ad_p1 .byte vs_p1) ∈ F) : Con Z EL y48 y48b 2 y48r (rmm 2 0 0 27) [(vi 0), (vr p1)] (F) (fun v D' => (v = none ∧ F = D')) := by
  refine Con.of (ls := #[iv 0, rv p1]) (by decide +kernel) rfl ?_
  refine W.iloadN d50_0 rfl ?_
  refine W.aloadN d50_1 rfl rfl ?_
  refine W.callS (as := [(vr p1)]) 1 [(vi 0)] d50_2 (wq hw 219 rfl) (wq hw 220 rfl) (wq hw 145 rfl) (wq hw 221 rfl) (c165_length hw hs (hvs_p1 := hvs_p1) (mp1 := mp1)) (by decide) pd__B_I rfl rfl rfl rfl (by decide) (fun v D' h => ?_)
  obtain ⟨rfl, rfl⟩ := h
  show W _ _ _ _ _ _ _ _ _ _ _ _ 5 _ [(vi 2), (vi 0)]
  refine W.callS (as := [(vi 0), (vi 2)]) 0 [] d50_5 (wq hw 246 rfl) (wq hw 180 rfl) (wq hw 3 rfl) (wq hw 181 rfl) (c47_checkIndex hw hs (hr0 := by have := q0; omega) (hr1 := by have := q0; have := q2; omega)) (by decide) pd_II_V rfl rfl rfl rfl (by decide) (fun v D' h => ?_)
  obtain ⟨rfl, rfl⟩ := h
  show W _ _ _ _ _ _ _ _ _ _ _ _ 8 _ []
  exact W.return_ d50_8 rfl (by decide) ⟨rfl, rfl⟩
theorem c183_charAt {Z a0} (hw : HW a0 Z) (hs : SF Z) {p1 : Addr} {x1 : Int32} (hx1 : 0 ≤ x1.toInt ∧ x1.toInt ≤ 65535) {e_p1_2 e_p1_3 : Value} {w_p1 : Bool} {ad_p1 : String} {F : List Ent} (mp1 : (p1, w_p1, ar ad_p1 .byte [(vi x1.toInt8.toInt32), (vi (x1 >>> ((8 : Int32) &&& 31)).toInt8.toInt32), e_p1_2, e_p1_3]) ∈ F) : Con Z EL y50 y50b 2 y50r (rmm 3 0 0 40) [(vr p1), (vi 0)] (F) (fun v D' => (v = some (vi x1) ∧ F = D')) := by
  refine Con.of (ls := #[rv p1, iv 0]) (by decide +kernel) rfl ?_
  refine W.iloadN d51_0 rfl ?_
  refine W.aloadN d51_1 rfl rfl ?_
  refine W.callS (as := [(vi 0), (vr p1)]) 0 [] d51_2 (wq hw 243 rfl) (wq hw 244 rfl) (wq hw 145 rfl) (wq hw 245 rfl) (c184_checkIndex hw hs (hvs_p1 := rfl) (mp1 := mp1)) (by decide) pd_I_B_V rfl rfl rfl rfl (by decide) (fun v D' h => ?_)
  obtain ⟨rfl, rfl⟩ := h
  show W _ _ _ _ _ _ _ _ _ _ _ _ 5 _ []
  refine W.aloadN d51_5 rfl rfl ?_
  refine W.iloadN d51_6 rfl ?_
  refine W.callS (as := [(vr p1), (vi 0)]) 0 [] d51_7 (wq hw 207 rfl) (wq hw 208 rfl) (wq hw 145 rfl) (wq hw 209 rfl) (c135_getChar hw hs (hx1 := hx1) (mp1 := mp1)) (by decide) pd__BI_C rfl rfl rfl rfl (by decide) (fun v D' h => ?_)
  obtain ⟨rfl, rfl⟩ := h
  show W _ _ _ _ _ _ _ _ _ _ _ _ 10 _ [(vi x1)]
  exact W.ireturn d51_10 rfl (Or.inr (Or.inr (Or.inr (Or.inl rfl)))) (nw_char hx1) (by decide) ⟨rfl, rfl⟩
theorem c182_charAt {Z a0} (hw : HW a0 Z) (hs : SF Z) {p1 p2 : Addr} {x1 : Int32} (hx1 : 0 ≤ x1.toInt ∧ x1.toInt ≤ 65535) {e_p2_2 e_p2_3 : Value} {w_p1 : Bool} {w_p2 : Bool} {ad_p2 : String} {F : List Ent} (mp1 : (p1, w_p1, oString (vr p2) (vi 1)) ∈ F) (mp2 : (p2, w_p2, ar ad_p2 .byte [(vi x1.toInt8.toInt32), (vi (x1 >>> ((8 : Int32) &&& 31)).toInt8.toInt32), e_p2_2, e_p2_3]) ∈ F) : Con Z EL y37 y37b 2 y37r (rmm 4 0 0 53) [(vr p1), (vi 0)] (F) (fun v D' => (v = some (vi x1) ∧ F = D')) := by
  refine Con.of (ls := #[rv p1, iv 0]) (by decide +kernel) rfl ?_
  refine W.aloadN d30_0 rfl rfl ?_
  refine W.callV (as := []) 0 [] d30_1 (wq hw 84 rfl) (wq hw 85 rfl) (wq hw 87 rfl) (wq hw 87 rfl) (wq hw 86 rfl) (wq hw 3 rfl) (wq hw 88 rfl) (Hp.exa mp1) (c58_isLatin1 hw hs (mp1 := mp1)) (by decide) pd__Z rfl rfl rfl rfl (by decide) (fun v D' h => ?_)
  obtain ⟨rfl, rfl⟩ := h
  show W _ _ _ _ _ _ _ _ _ _ _ _ 4 _ [(vi 0)]
  refine W.ifY 16 d30_4 (y_eq (by decide)) (by decide) ?_
  refine W.aloadN d30_16 rfl rfl ?_
  refine W.getf d30_17 (wq hw 20 rfl) Via.refl mp1 m0 ?_
  refine W.iloadN d30_20 rfl ?_
  refine W.callS (as := [(vr p2), (vi 0)]) 0 [] d30_21 (wq hw 249 rfl) (wq hw 250 rfl) (wq hw 145 rfl) (wq hw 251 rfl) (c183_charAt hw hs (hx1 := hx1) (mp1 := mp2)) (by decide) pd__BI_C rfl rfl rfl rfl (by decide) (fun v D' h => ?_)
  obtain ⟨rfl, rfl⟩ := h
  show W _ _ _ _ _ _ _ _ _ _ _ _ 24 _ [(vi x1)]
  exact W.ireturn d30_24 rfl (Or.inr (Or.inr (Or.inr (Or.inl rfl)))) (nw_char hx1) (by decide) ⟨rfl, rfl⟩
theorem c186_charAt {Z a0} (hw : HW a0 Z) (hs : SF Z) {p1 : Addr} {x2 : Int32} (hx2 : 0 ≤ x2.toInt ∧ x2.toInt ≤ 65535) {e_p1_0 e_p1_1 : Value} {w_p1 : Bool} {ad_p1 : String} {F : List Ent} (mp1 : (p1, w_p1, ar ad_p1 .byte [e_p1_0, e_p1_1, (vi x2.toInt8.toInt32), (vi (x2 >>> ((8 : Int32) &&& 31)).toInt8.toInt32)]) ∈ F) : Con Z EL y50 y50b 2 y50r (rmm 3 0 0 40) [(vr p1), (vi 1)] (F) (fun v D' => (v = some (vi x2) ∧ F = D')) := by
  refine Con.of (ls := #[rv p1, iv 1]) (by decide +kernel) rfl ?_
  refine W.iloadN d51_0 rfl ?_
  refine W.aloadN d51_1 rfl rfl ?_
  refine W.callS (as := [(vi 1), (vr p1)]) 0 [] d51_2 (wq hw 243 rfl) (wq hw 244 rfl) (wq hw 145 rfl) (wq hw 245 rfl) (c177_checkIndex hw hs (hvs_p1 := rfl) (mp1 := mp1)) (by decide) pd_I_B_V rfl rfl rfl rfl (by decide) (fun v D' h => ?_)
  obtain ⟨rfl, rfl⟩ := h
  show W _ _ _ _ _ _ _ _ _ _ _ _ 5 _ []
  refine W.aloadN d51_5 rfl rfl ?_
  refine W.iloadN d51_6 rfl ?_
  refine W.callS (as := [(vr p1), (vi 1)]) 0 [] d51_7 (wq hw 207 rfl) (wq hw 208 rfl) (wq hw 145 rfl) (wq hw 209 rfl) (c134_getChar hw hs (hx2 := hx2) (mp1 := mp1)) (by decide) pd__BI_C rfl rfl rfl rfl (by decide) (fun v D' h => ?_)
  obtain ⟨rfl, rfl⟩ := h
  show W _ _ _ _ _ _ _ _ _ _ _ _ 10 _ [(vi x2)]
  exact W.ireturn d51_10 rfl (Or.inr (Or.inr (Or.inr (Or.inl rfl)))) (nw_char hx2) (by decide) ⟨rfl, rfl⟩
theorem c185_charAt {Z a0} (hw : HW a0 Z) (hs : SF Z) {p1 p2 : Addr} {x2 : Int32} (hx2 : 0 ≤ x2.toInt ∧ x2.toInt ≤ 65535) {e_p2_0 e_p2_1 : Value} {w_p1 : Bool} {w_p2 : Bool} {ad_p2 : String} {F : List Ent} (mp1 : (p1, w_p1, oString (vr p2) (vi 1)) ∈ F) (mp2 : (p2, w_p2, ar ad_p2 .byte [e_p2_0, e_p2_1, (vi x2.toInt8.toInt32), (vi (x2 >>> ((8 : Int32) &&& 31)).toInt8.toInt32)]) ∈ F) : Con Z EL y37 y37b 2 y37r (rmm 4 0 0 53) [(vr p1), (vi 1)] (F) (fun v D' => (v = some (vi x2) ∧ F = D')) := by
  refine Con.of (ls := #[rv p1, iv 1]) (by decide +kernel) rfl ?_
  refine W.aloadN d30_0 rfl rfl ?_
  refine W.callV (as := []) 0 [] d30_1 (wq hw 84 rfl) (wq hw 85 rfl) (wq hw 87 rfl) (wq hw 87 rfl) (wq hw 86 rfl) (wq hw 3 rfl) (wq hw 88 rfl) (Hp.exa mp1) (c58_isLatin1 hw hs (mp1 := mp1)) (by decide) pd__Z rfl rfl rfl rfl (by decide) (fun v D' h => ?_)
  obtain ⟨rfl, rfl⟩ := h
  show W _ _ _ _ _ _ _ _ _ _ _ _ 4 _ [(vi 0)]
  refine W.ifY 16 d30_4 (y_eq (by decide)) (by decide) ?_
  refine W.aloadN d30_16 rfl rfl ?_
  refine W.getf d30_17 (wq hw 20 rfl) Via.refl mp1 m0 ?_
  refine W.iloadN d30_20 rfl ?_
  refine W.callS (as := [(vr p2), (vi 1)]) 0 [] d30_21 (wq hw 249 rfl) (wq hw 250 rfl) (wq hw 145 rfl) (wq hw 251 rfl) (c186_charAt hw hs (hx2 := hx2) (mp1 := mp2)) (by decide) pd__BI_C rfl rfl rfl rfl (by decide) (fun v D' h => ?_)
  obtain ⟨rfl, rfl⟩ := h
  show W _ _ _ _ _ _ _ _ _ _ _ _ 24 _ [(vi x2)]
  exact W.ireturn d30_24 rfl (Or.inr (Or.inr (Or.inr (Or.inl rfl)))) (nw_char hx2) (by decide) ⟨rfl, rfl⟩
theorem c195_checkFromIndexSize {Z a0} (hw : HW a0 Z) (hs : SF Z) {F : List Ent} : Con Z EL y40 y40b 4 y40r (rmm 0 0 0 0) [(vi 0), (vi 0), (vi 2), (sfv Z)] (F) (fun v D' => (v = some (vi 0) ∧ F = D')) := by
  refine Con.of (ls := #[iv 0, iv 0, iv 2, .val (sfv Z)]) (by decide +kernel) (hent_of (ld1 rfl (ld1 rfl (ld1 rfl (ld1 (XT.cat1 hs.2.2.1) ld0)))) rfl) ?_
  refine W.iloadN d45_0 rfl ?_
  refine W.iloadN d45_1 rfl ?_
  refine W.iorK (2 : Int32) d45_2 (by decide) ?_
  refine W.iloadN d45_3 rfl ?_
  refine W.iorK (2 : Int32) d45_4 (by decide) ?_
  refine W.ifN d45_5 (n_lt (by decide)) ?_
  refine W.iloadN d45_8 rfl ?_
  refine W.iloadN d45_9 rfl ?_
  refine W.iloadN d45_10 rfl ?_
  refine W.isubK (2 : Int32) d45_11 (by decide) ?_
  refine W.icmpY 23 d45_12 (y_le (by decide)) (by decide) ?_
  refine W.iloadN d45_23 rfl ?_
  exact W.ireturn d45_24 rfl (Or.inl rfl) rfl (by decide) ⟨rfl, rfl⟩
theorem c194_checkBoundsOffCount {Z a0} (hw : HW a0 Z) (hs : SF Z) {F : List Ent} : Con Z EL y41 y41b 3 y41r (rmm 1 0 0 15) [(vi 0), (vi 0), (vi 2)] (F) (fun v D' => (v = some (vi 0) ∧ F = D')) := by
  refine Con.of (ls := #[iv 0, iv 0, iv 2]) (by decide +kernel) rfl ?_
  refine W.iloadN d44_0 rfl ?_
  refine W.iloadN d44_1 rfl ?_
  refine W.iloadN d44_2 rfl ?_
  refine W.gets d44_3 (wq hw 182 rfl) Via.refl hs.2.2.2.1 ?_
  refine W.callS (as := [(vi 0), (vi 0), (vi 2), (sfv Z)]) 0 [] d44_6 (wq hw 225 rfl) (wq hw 226 rfl) (wq hw 183 rfl) (wq hw 227 rfl) (c195_checkFromIndexSize hw hs) (by decide) pd_IIILjava_util_function_BiFunction__I rfl rfl rfl rfl (by decide) (fun v D' h => ?_)
  obtain ⟨rfl, rfl⟩ := h
  show W _ _ _ _ _ _ _ _ _ _ _ _ 9 _ [(vi 0)]
  exact W.ireturn d44_9 rfl (Or.inl rfl) rfl (by decide) ⟨rfl, rfl⟩
theorem c193_checkBoundsOffCount {Z a0} (hw : HW a0 Z) (hs : SF Z) {p1 : Addr} {vs_p1 : List Value} (hvs_p1 : vs_p1.length = 4) {w_p1 : Bool} {ad_p1 : String} {F : List Ent} (mp1 : (p1, w_p1, ar ad_p1 .byte vs_p1) ∈ F) : Con Z EL y42 y42b 3 y42r (rmm 2 0 0 29) [(vi 0), (vi 0), (vr p1)] (F) (fun v D' => (v = none ∧ F = D')) := by
  refine Con.of (ls := #[iv 0, iv 0, rv p1]) (by decide +kernel) rfl ?_
  refine W.iloadN d42_0 rfl ?_
  refine W.iloadN d42_1 rfl ?_
  refine W.aloadN d42_2 rfl rfl ?_
  refine W.callS (as := [(vr p1)]) 2 [(vi 0), (vi 0)] d42_3 (wq hw 219 rfl) (wq hw 220 rfl) (wq hw 145 rfl) (wq hw 221 rfl) (c165_length hw hs (hvs_p1 := hvs_p1) (mp1 := mp1)) (by decide) pd__B_I rfl rfl rfl rfl (by decide) (fun v D' h => ?_)
  obtain ⟨rfl, rfl⟩ := h
  show W _ _ _ _ _ _ _ _ _ _ _ _ 6 _ [(vi 2), (vi 0), (vi 0)]
  refine W.callS (as := [(vi 0), (vi 0), (vi 2)]) 0 [] d42_6 (wq hw 222 rfl) (wq hw 223 rfl) (wq hw 3 rfl) (wq hw 224 rfl) (c194_checkBoundsOffCount hw hs) (by decide) pd_III_I rfl rfl rfl rfl (by decide) (fun v D' h => ?_)
  obtain ⟨rfl, rfl⟩ := h
  show W _ _ _ _ _ _ _ _ _ _ _ _ 9 _ [(vi 0)]
  refine W.popv d42_9 rfl ?_
  exact W.return_ d42_10 rfl (by decide) ⟨rfl, rfl⟩
theorem c192_inflate {Z a0} (hw : HW a0 Z) (hs : SF Z) {p1 p2 : Addr} {vs_p2 : List Value} (hvs_p2 : vs_p2.length = 4) {w_p2 : Bool} {ad_p2 : String} {F : List Ent} (mp2 : (p2, w_p2, ar ad_p2 .byte vs_p2) ∈ F) : Con Z EL y45 y45b 6 y45r (rmm 3 0 0 43) [(vr p1), (vi 0), (vr p2), (vi 0), (vi 0)] (F) (fun v D' => (v = none ∧ F = D')) := by
  refine Con.of (ls := #[rv p1, iv 0, rv p2, iv 0, iv 0, uu]) (by decide +kernel) rfl ?_
  refine W.iloadN d48_0 rfl ?_
  refine W.iload d48_1 rfl ?_
  refine W.aloadN d48_3 rfl rfl ?_
  refine W.callS (as := [(vi 0), (vi 0), (vr p2)]) 0 [] d48_4 (wq hw 216 rfl) (wq hw 217 rfl) (wq hw 145 rfl) (wq hw 218 rfl) (c193_checkBoundsOffCount hw hs (hvs_p1 := hvs_p2) (mp1 := mp2)) (by decide) pd_II_B_V rfl rfl rfl rfl (by decide) (fun v D' h => ?_)
  obtain ⟨rfl, rfl⟩ := h
  show W _ _ _ _ _ _ _ _ _ _ _ _ 7 _ []
  refine W.iconst (0) d48_7 (by decide) ?_
  refine W.istore (ls' := #[rv p1, iv 0, rv p2, iv 0, iv 0, iv 0]) d48_8 rfl ?_
  refine W.iload d48_10 rfl ?_
  refine W.iload d48_12 rfl ?_
  refine W.icmpY 41 d48_14 (y_ge (by decide)) (by decide) ?_
  exact W.return_ d48_41 rfl (by decide) ⟨rfl, rfl⟩
theorem c191_inflate {Z a0} (hw : HW a0 Z) (hs : SF Z) {p1 p2 : Addr} {vs_p2 : List Value} (hvs_p2 : vs_p2.length = 4) {w_p2 : Bool} {ad_p2 : String} {F : List Ent} (mp2 : (p2, w_p2, ar ad_p2 .byte vs_p2) ∈ F) : Con Z EL y46 y46b 5 y46r (rmm 4 0 0 60) [(vr p1), (vi 0), (vr p2), (vi 0), (vi 0)] (F) (fun v D' => (v = none ∧ F = D')) := by
  refine Con.of (ls := #[rv p1, iv 0, rv p2, iv 0, iv 0]) (by decide +kernel) rfl ?_
  refine W.aloadN d47_0 rfl rfl ?_
  refine W.iloadN d47_1 rfl ?_
  refine W.aloadN d47_2 rfl rfl ?_
  refine W.iloadN d47_3 rfl ?_
  refine W.iload d47_4 rfl ?_
  refine W.callS (as := [(vr p1), (vi 0), (vr p2), (vi 0), (vi 0)]) 0 [] d47_6 (wq hw 237 rfl) (wq hw 238 rfl) (wq hw 145 rfl) (wq hw 239 rfl) (c192_inflate hw hs (hvs_p2 := hvs_p2) (mp2 := mp2)) (by decide) pd__BI_BII_V rfl rfl rfl rfl (by decide) (fun v D' h => ?_)
  obtain ⟨rfl, rfl⟩ := h
  show W _ _ _ _ _ _ _ _ _ _ _ _ 9 _ []
  exact W.return_ d47_9 rfl (by decide) ⟨rfl, rfl⟩
theorem c190_inflate {Z a0} (hw : HW a0 Z) (hs : SF Z) {p1 p2 : Addr} {f_p1_3 : Value} {vs_p2 : List Value} (hvs_p2 : vs_p2.length = 2) {w_p2 : Bool} {ad_p2 : String} {F : List Ent} (mp2 : (p2, w_p2, ar ad_p2 .byte vs_p2) ∈ F) : Con Z EL y47 y47b 2 y47r (rmm 5 1 4 76) [(vr p1)] ((p1, true, oStringBuilder (vr p2) (vi 0) (vi 0) f_p1_3) :: F) (fun v D' => (∃ a1 : Addr, v = none ∧ (a1, true, ar "[B" .byte [(vi 0), (vi 0), (vi 0), (vi 0)]) :: (p1, true, oStringBuilder (vr a1) (vi 1) (vi 0) f_p1_3) :: F = D')) := by
  refine Con.of (ls := #[rv p1, uu]) (by decide +kernel) rfl ?_
  refine W.aloadN d46_0 rfl rfl ?_
  refine W.callV (as := []) 0 [] d46_1 (wq hw 167 rfl) (wq hw 125 rfl) (wq hw 127 rfl) (wq hw 127 rfl) (wq hw 126 rfl) (wq hw 71 rfl) (wq hw 128 rfl) (Hp.exa m0) (c30_isLatin1 hw hs (mp1 := m0)) (by decide) pd__Z rfl rfl rfl rfl (by decide) (fun v D' h => ?_)
  obtain ⟨rfl, rfl⟩ := h
  show W _ _ _ _ _ _ _ _ _ _ _ _ 4 _ [(vi 1)]
  refine W.ifY 8 d46_4 (y_ne (by decide)) (by decide) ?_
  refine W.aloadN d46_8 rfl rfl ?_
  refine W.getf d46_9 (wq hw 75 rfl) Via.refl m0 m0 ?_
  refine W.alen (2) d46_12 (mS mp2) (by rw [hvs_p2]; rfl) ?_
  refine W.callS (as := [(vi 2)]) 0 [] d46_13 (wq hw 233 rfl) (wq hw 195 rfl) (wq hw 145 rfl) (wq hw 196 rfl) (c130_newBytesFor hw hs) (by decide) pd_I__B rfl rfl rfl rfl (by decide) (fun v D' h => ?_)
  obtain ⟨a1, rfl, rfl⟩ := h
  show W _ _ _ _ _ _ _ _ _ _ _ _ 16 _ [(vr a1)]
  refine W.astoreN (ls' := #[rv p1, rv a1]) d46_16 rfl rfl ?_
  refine W.aloadN d46_17 rfl rfl ?_
  refine W.getf d46_18 (wq hw 75 rfl) Via.refl m1 m0 ?_
  refine W.iconst (0) d46_21 (by decide) ?_
  refine W.aloadN d46_22 rfl rfl ?_
  refine W.iconst (0) d46_23 (by decide) ?_
  refine W.aloadN d46_24 rfl rfl ?_
  refine W.getf d46_25 (wq hw 122 rfl) Via.refl m1 m2 ?_
  refine W.callS (as := [(vr p2), (vi 0), (vr a1), (vi 0), (vi 0)]) 0 [] d46_28 (wq hw 234 rfl) (wq hw 235 rfl) (wq hw 91 rfl) (wq hw 236 rfl) (c191_inflate hw hs (hvs_p2 := rfl) (mp2 := m0)) (by decide) pd__BI_BII_V rfl rfl rfl rfl (by decide) (fun v D' h => ?_)
  obtain ⟨rfl, rfl⟩ := h
  show W _ _ _ _ _ _ _ _ _ _ _ _ 31 _ []
  refine W.aloadN d46_31 rfl rfl ?_
  refine W.aloadN d46_32 rfl rfl ?_
  refine W.putf (D' := (a1, true, ar "[B" .byte [(vi 0), (vi 0), (vi 0), (vi 0)]) :: (p1, true, oStringBuilder (vr a1) (vi 0) (vi 0) f_p1_3) :: F) 1 0 d46_33 (wq hw 75 rfl) Via.refl rfl rfl (Or.inl (wq hw 76 rfl)) (wq hw 51 rfl) pf_B rfl rfl rfl ?_
  refine W.aloadN d46_36 rfl rfl ?_
  refine W.iconst (1) d46_37 (by decide) ?_
  refine W.putf (D' := (a1, true, ar "[B" .byte [(vi 0), (vi 0), (vi 0), (vi 0)]) :: (p1, true, oStringBuilder (vr a1) (vi 1) (vi 0) f_p1_3) :: F) 1 1 d46_38 (wq hw 77 rfl) Via.refl rfl rfl (Or.inl (wq hw 78 rfl)) (wq hw 51 rfl) pfB (nw_byte (by decide)) (ft_byte (by decide)) rfl ?_
  exact W.return_ d46_41 rfl (by decide) ⟨a1, rfl, rfl⟩
theorem c196_putCharSB {Z a0} (hw : HW a0 Z) (hs : SF Z) {p1 : Addr} {x1 : Int32} (hx1 : 0 ≤ x1.toInt ∧ x1.toInt ≤ 65535) {e_p1_2 e_p1_3 : Value} {ad_p1 : String} {F : List Ent} : Con Z EL y49 y49b 3 y49r (rmm 3 0 0 40) [(vr p1), (vi 0), (vi x1)] ((p1, true, ar ad_p1 .byte [(vi 0), (vi 0), e_p1_2, e_p1_3]) :: F) (fun v D' => (v = none ∧ (p1, true, ar ad_p1 .byte [(vi x1.toInt8.toInt32), (vi (x1 >>> ((8 : Int32) &&& 31)).toInt8.toInt32), e_p1_2, e_p1_3]) :: F = D')) := by
  refine Con.of (ls := #[rv p1, iv 0, iv x1]) (by decide +kernel) rfl ?_
  refine W.iloadN d49_0 rfl ?_
  refine W.aloadN d49_1 rfl rfl ?_
  refine W.callS (as := [(vi 0), (vr p1)]) 0 [] d49_2 (wq hw 243 rfl) (wq hw 244 rfl) (wq hw 145 rfl) (wq hw 245 rfl) (c184_checkIndex hw hs (hvs_p1 := rfl) (mp1 := m0)) (by decide) pd_I_B_V rfl rfl rfl rfl (by decide) (fun v D' h => ?_)
  obtain ⟨rfl, rfl⟩ := h
  show W _ _ _ _ _ _ _ _ _ _ _ _ 5 _ []
  refine W.aloadN d49_5 rfl rfl ?_
  refine W.iloadN d49_6 rfl ?_
  refine W.iloadN d49_7 rfl ?_
  refine W.callS (as := [(vr p1), (vi 0), (vi x1)]) 0 [] d49_8 (wq hw 201 rfl) (wq hw 202 rfl) (wq hw 145 rfl) (wq hw 203 rfl) (c132_putChar hw hs (hx1 := hx1)) (by decide) pd__BII_V rfl rfl rfl rfl (by decide) (fun v D' h => ?_)
  obtain ⟨rfl, rfl⟩ := h
  show W _ _ _ _ _ _ _ _ _ _ _ _ 11 _ []
  exact W.return_ d49_11 rfl (by decide) ⟨rfl, rfl⟩
theorem c189_append {Z a0} (hw : HW a0 Z) (hs : SF Z) {p1 p2 : Addr} {x1 : Int32} (hx1 : 256 ≤ x1.toInt ∧ x1.toInt ≤ 65535) {f_p1_3 : Value} {vs_p2 : List Value} (hvs_p2 : vs_p2.length = 2) {w_p2 : Bool} {ad_p2 : String} {F : List Ent} (mp2 : (p2, w_p2, ar ad_p2 .byte vs_p2) ∈ F) : Con Z EL y24 y24b 2 y24r (rmm 6 1 4 89) [(vr p1), (vi x1)] ((p1, true, oStringBuilder (vr p2) (vi 0) (vi 0) f_p1_3) :: F) (fun v D' => (∃ a1 : Addr, v = some (vr p1) ∧ (a1, true, ar "[B" .byte [(vi x1.toInt8.toInt32), (vi (x1 >>> ((8 : Int32) &&& 31)).toInt8.toInt32), (vi 0), (vi 0)]) :: (p1, true, oStringBuilder (vr a1) (vi 1) (vi 1) f_p1_3) :: F = D')) := by
  refine Con.of (ls := #[rv p1, iv x1]) (by decide +kernel) rfl ?_
  refine W.aloadN d27_0 rfl rfl ?_
  refine W.aloadN d27_1 rfl rfl ?_
  refine W.getf d27_2 (wq hw 122 rfl) Via.refl m0 m2 ?_
  refine W.iconst (1) d27_5 (by decide) ?_
  refine W.iaddK (1 : Int32) d27_6 (by decide) ?_
  refine W.callP (as := [(vi 1)]) 0 [] d27_7 (wq hw 162 rfl) (wq hw 163 rfl) (wq hw 165 rfl) (wq hw 164 rfl) (wq hw 71 rfl) (wq hw 166 rfl) (Hp.exa m0) (c147_ensureCapacityInternal hw hs (hvs_p2 := hvs_p2) (mp1 := m0) (mp2 := (mS mp2))) (by decide) pd_I_V rfl rfl rfl rfl (by decide) (fun v D' h => ?_)
  obtain ⟨rfl, rfl⟩ := h
  show W _ _ _ _ _ _ _ _ _ _ _ _ 10 _ []
  refine W.aloadN d27_10 rfl rfl ?_
  refine W.callV (as := []) 0 [] d27_11 (wq hw 167 rfl) (wq hw 125 rfl) (wq hw 127 rfl) (wq hw 127 rfl) (wq hw 126 rfl) (wq hw 71 rfl) (wq hw 128 rfl) (Hp.exa m0) (c30_isLatin1 hw hs (mp1 := m0)) (by decide) pd__Z rfl rfl rfl rfl (by decide) (fun v D' h => ?_)
  obtain ⟨rfl, rfl⟩ := h
  show W _ _ _ _ _ _ _ _ _ _ _ _ 14 _ [(vi 1)]
  refine W.ifN d27_14 (n_eq (by decide)) ?_
  refine W.iloadN d27_17 rfl ?_
  refine W.callS (as := [(vi x1)]) 0 [] d27_18 (wq hw 168 rfl) (wq hw 169 rfl) (wq hw 91 rfl) (wq hw 170 rfl) (c67_canEncode hw hs (hx1 := hx1)) (by decide) pd_C_Z rfl rfl rfl rfl (by decide) (fun v D' h => ?_)
  obtain ⟨rfl, rfl⟩ := h
  show W _ _ _ _ _ _ _ _ _ _ _ _ 21 _ [(vi 0)]
  refine W.ifY 45 d27_21 (y_eq (by decide)) (by decide) ?_
  refine W.aloadN d27_45 rfl rfl ?_
  refine W.callV (as := []) 0 [] d27_46 (wq hw 167 rfl) (wq hw 125 rfl) (wq hw 127 rfl) (wq hw 127 rfl) (wq hw 126 rfl) (wq hw 71 rfl) (wq hw 128 rfl) (Hp.exa m0) (c30_isLatin1 hw hs (mp1 := m0)) (by decide) pd__Z rfl rfl rfl rfl (by decide) (fun v D' h => ?_)
  obtain ⟨rfl, rfl⟩ := h
  show W _ _ _ _ _ _ _ _ _ _ _ _ 49 _ [(vi 1)]
  refine W.ifN d27_49 (n_eq (by decide)) ?_
  refine W.aloadN d27_52 rfl rfl ?_
  refine W.callP (as := []) 0 [] d27_53 (wq hw 228 rfl) (wq hw 229 rfl) (wq hw 231 rfl) (wq hw 230 rfl) (wq hw 71 rfl) (wq hw 232 rfl) (Hp.exa m0) (c190_inflate hw hs (hvs_p2 := hvs_p2) (mp2 := mp2)) (by decide) pd__V rfl rfl rfl rfl (by decide) (fun v D' h => ?_)
  obtain ⟨a1, rfl, rfl⟩ := h
  show W _ _ _ _ _ _ _ _ _ _ _ _ 56 _ []
  refine W.aloadN d27_56 rfl rfl ?_
  refine W.getf d27_57 (wq hw 75 rfl) Via.refl m1 m0 ?_
  refine W.aloadN d27_60 rfl rfl ?_
  refine W.dup d27_61 rfl ?_
  refine W.getf d27_62 (wq hw 122 rfl) Via.refl m1 m2 ?_
  refine W.dupX1 d27_65 rfl rfl ?_
  refine W.iconst (1) d27_66 (by decide) ?_
  refine W.iaddK (1 : Int32) d27_67 (by decide) ?_
  refine W.putf (D' := (a1, true, ar "[B" .byte [(vi 0), (vi 0), (vi 0), (vi 0)]) :: (p1, true, oStringBuilder (vr a1) (vi 1) (vi 1) f_p1_3) :: F) 1 2 d27_68 (wq hw 122 rfl) Via.refl rfl rfl (Or.inl (wq hw 123 rfl)) (wq hw 51 rfl) pfI rfl rfl rfl ?_
  refine W.iloadN d27_71 rfl ?_
  refine W.callS (as := [(vr a1), (vi 0), (vi x1)]) 0 [] d27_72 (wq hw 240 rfl) (wq hw 241 rfl) (wq hw 145 rfl) (wq hw 242 rfl) (c196_putCharSB hw hs (hx1 := (by omega))) (by decide) pd__BII_V rfl rfl rfl rfl (by decide) (fun v D' h => ?_)
  obtain ⟨rfl, rfl⟩ := h
  show W _ _ _ _ _ _ _ _ _ _ _ _ 75 _ []
  refine W.aloadN d27_75 rfl rfl ?_
  exact W.areturn d27_76 rfl rfl rfl (by decide) ⟨a1, rfl, rfl⟩
theorem c188_append {Z a0} (hw : HW a0 Z) (hs : SF Z) {p1 p2 : Addr} {x1 : Int32} (hx1 : 256 ≤ x1.toInt ∧ x1.toInt ≤ 65535) {f_p1_3 : Value} {vs_p2 : List Value} (hvs_p2 : vs_p2.length = 2) {w_p2 : Bool} {ad_p2 : String} {F : List Ent} (mp2 : (p2, w_p2, ar ad_p2 .byte vs_p2) ∈ F) : Con Z EL y25 y25b 2 y25r (rmm 7 1 4 102) [(vr p1), (vi x1)] ((p1, true, oStringBuilder (vr p2) (vi 0) (vi 0) f_p1_3) :: F) (fun v D' => (∃ a1 : Addr, v = some (vr p1) ∧ (a1, true, ar "[B" .byte [(vi x1.toInt8.toInt32), (vi (x1 >>> ((8 : Int32) &&& 31)).toInt8.toInt32), (vi 0), (vi 0)]) :: (p1, true, oStringBuilder (vr a1) (vi 1) (vi 1) f_p1_3) :: F = D')) := by
  refine Con.of (ls := #[rv p1, iv x1]) (by decide +kernel) rfl ?_
  refine W.aloadN d26_0 rfl rfl ?_
  refine W.iloadN d26_1 rfl ?_
  refine W.callUp (as := [(vi x1)]) 0 [] d26_2 (wq hw 158 rfl) (same_self (by rfl) (by decide) (wq hw 159 rfl) (wq hw 110 rfl) (wq hw 111 rfl)) (wq hw 159 rfl) (wq hw 120 rfl) (by decide) (wq hw 71 rfl) (wq hw 161 rfl) (Hp.ins m0) (c189_append hw hs (hx1 := hx1) (hvs_p2 := hvs_p2) (mp2 := mp2)) pd_C_Ljava_lang_AbstractStringBuilder_ rfl rfl rfl rfl (by decide) (fun v D' h => ?_)
  obtain ⟨a1, rfl, rfl⟩ := h
  show W _ _ _ _ _ _ _ _ _ _ _ _ 5 _ [(vr p1)]
  refine W.popv d26_5 rfl ?_
  refine W.aloadN d26_6 rfl rfl ?_
  exact W.areturn d26_7 rfl rfl rfl (by decide) ⟨a1, rfl, rfl⟩
theorem c199_ensureCapacityInternal {Z a0} (hw : HW a0 Z) (hs : SF Z) {p1 p2 : Addr} {f_p1_2 f_p1_3 : Value} {vs_p2 : List Value} (hvs_p2 : vs_p2.length = 4) {w_p1 : Bool} {w_p2 : Bool} {ad_p2 : String} {F : List Ent} (mp1 : (p1, w_p1, oStringBuilder (vr p2) (vi 1) f_p1_2 f_p1_3) ∈ F) (mp2 : (p2, w_p2, ar ad_p2 .byte vs_p2) ∈ F) : Con Z EL y21 y21b 3 y21r (rmm 0 0 0 0) [(vr p1), (vi 2)] (F) (fun v D' => (v = none ∧ F = D')) := by
  refine Con.of (ls := #[rv p1, iv 2, uu]) (by decide +kernel) rfl ?_
  refine W.aloadN d28_0 rfl rfl ?_
  refine W.getf d28_1 (wq hw 75 rfl) Via.refl mp1 m0 ?_
  refine W.alen (4) d28_4 mp2 (by rw [hvs_p2]; rfl) ?_
  refine W.aloadN d28_5 rfl rfl ?_
  refine W.getf d28_6 (wq hw 77 rfl) Via.refl mp1 m1 ?_
  refine W.ishrK (2 : Int32) d28_9 (by decide) ?_
  refine W.istoreN (ls' := #[rv p1, iv 2, iv 2]) d28_10 rfl ?_
  refine W.iloadN d28_11 rfl ?_
  refine W.iloadN d28_12 rfl ?_
  refine W.isubK (0 : Int32) d28_13 (by decide) ?_
  refine W.ifY 38 d28_14 (y_le (by decide)) (by decide) ?_
  exact W.return_ d28_38 rfl (by decide) ⟨rfl, rfl⟩
theorem c198_append {Z a0} (hw : HW a0 Z) (hs : SF Z) {p1 p2 : Addr} {x1 : Int32} (hx1 : 0 ≤ x1.toInt ∧ x1.toInt ≤ 65535) {f_p1_3 e_p2_0 e_p2_1 : Value} {ad_p2 : String} {F : List Ent} : Con Z EL y24 y24b 2 y24r (rmm 4 0 0 54) [(vr p1), (vi x1)] ((p1, true, oStringBuilder (vr p2) (vi 1) (vi 1) f_p1_3) :: (p2, true, ar ad_p2 .byte [e_p2_0, e_p2_1, (vi 0), (vi 0)]) :: F) (fun v D' => (v = some (vr p1) ∧ (p2, true, ar ad_p2 .byte [e_p2_0, e_p2_1, (vi x1.toInt8.toInt32), (vi (x1 >>> ((8 : Int32) &&& 31)).toInt8.toInt32)]) :: (p1, true, oStringBuilder (vr p2) (vi 1) (vi 2) f_p1_3) :: F = D')) := by
  refine Con.of (ls := #[rv p1, iv x1]) (by decide +kernel) rfl ?_
  refine W.aloadN d27_0 rfl rfl ?_
  refine W.aloadN d27_1 rfl rfl ?_
  refine W.getf d27_2 (wq hw 122 rfl) Via.refl m0 m2 ?_
  refine W.iconst (1) d27_5 (by decide) ?_
  refine W.iaddK (2 : Int32) d27_6 (by decide) ?_
  refine W.callP (as := [(vi 2)]) 0 [] d27_7 (wq hw 162 rfl) (wq hw 163 rfl) (wq hw 165 rfl) (wq hw 164 rfl) (wq hw 71 rfl) (wq hw 166 rfl) (Hp.exa m0) (c199_ensureCapacityInternal hw hs (hvs_p2 := rfl) (mp1 := m0) (mp2 := m1)) (by decide) pd_I_V rfl rfl rfl rfl (by decide) (fun v D' h => ?_)
  obtain ⟨rfl, rfl⟩ := h
  show W _ _ _ _ _ _ _ _ _ _ _ _ 10 _ []
  refine W.aloadN d27_10 rfl rfl ?_
  refine W.callV (as := []) 0 [] d27_11 (wq hw 167 rfl) (wq hw 125 rfl) (wq hw 127 rfl) (wq hw 127 rfl) (wq hw 126 rfl) (wq hw 71 rfl) (wq hw 128 rfl) (Hp.exa m0) (c79_isLatin1 hw hs (mp1 := m0)) (by decide) pd__Z rfl rfl rfl rfl (by decide) (fun v D' h => ?_)
  obtain ⟨rfl, rfl⟩ := h
  show W _ _ _ _ _ _ _ _ _ _ _ _ 14 _ [(vi 0)]
  refine W.ifY 45 d27_14 (y_eq (by decide)) (by decide) ?_
  refine W.aloadN d27_45 rfl rfl ?_
  refine W.callV (as := []) 0 [] d27_46 (wq hw 167 rfl) (wq hw 125 rfl) (wq hw 127 rfl) (wq hw 127 rfl) (wq hw 126 rfl) (wq hw 71 rfl) (wq hw 128 rfl) (Hp.exa m0) (c79_isLatin1 hw hs (mp1 := m0)) (by decide) pd__Z rfl rfl rfl rfl (by decide) (fun v D' h => ?_)
  obtain ⟨rfl, rfl⟩ := h
  show W _ _ _ _ _ _ _ _ _ _ _ _ 49 _ [(vi 0)]
  refine W.ifY 56 d27_49 (y_eq (by decide)) (by decide) ?_
  refine W.aloadN d27_56 rfl rfl ?_
  refine W.getf d27_57 (wq hw 75 rfl) Via.refl m0 m0 ?_
  refine W.aloadN d27_60 rfl rfl ?_
  refine W.dup d27_61 rfl ?_
  refine W.getf d27_62 (wq hw 122 rfl) Via.refl m0 m2 ?_
  refine W.dupX1 d27_65 rfl rfl ?_
  refine W.iconst (1) d27_66 (by decide) ?_
  refine W.iaddK (2 : Int32) d27_67 (by decide) ?_
  refine W.putf (D' := (p1, true, oStringBuilder (vr p2) (vi 1) (vi 2) f_p1_3) :: (p2, true, ar ad_p2 .byte [e_p2_0, e_p2_1, (vi 0), (vi 0)]) :: F) 0 2 d27_68 (wq hw 122 rfl) Via.refl rfl rfl (Or.inl (wq hw 123 rfl)) (wq hw 51 rfl) pfI rfl rfl rfl ?_
  refine W.iloadN d27_71 rfl ?_
  refine W.front 1 (D' := (p2, true, ar ad_p2 .byte [e_p2_0, e_p2_1, (vi 0), (vi 0)]) :: (p1, true, oStringBuilder (vr p2) (vi 1) (vi 2) f_p1_3) :: F) rfl rfl ?_
  refine W.callS (as := [(vr p2), (vi 1), (vi x1)]) 0 [] d27_72 (wq hw 240 rfl) (wq hw 241 rfl) (wq hw 145 rfl) (wq hw 242 rfl) (c176_putCharSB hw hs (hx1 := hx1)) (by decide) pd__BII_V rfl rfl rfl rfl (by decide) (fun v D' h => ?_)
  obtain ⟨rfl, rfl⟩ := h
  show W _ _ _ _ _ _ _ _ _ _ _ _ 75 _ []
  refine W.aloadN d27_75 rfl rfl ?_
  exact W.areturn d27_76 rfl rfl rfl (by decide) ⟨rfl, rfl⟩
theorem c197_append {Z a0} (hw : HW a0 Z) (hs : SF Z) {p1 p2 : Addr} {x1 : Int32} (hx1 : 0 ≤ x1.toInt ∧ x1.toInt ≤ 65535) {f_p1_3 e_p2_0 e_p2_1 : Value} {ad_p2 : String} {F : List Ent} : Con Z EL y25 y25b 2 y25r (rmm 5 0 0 67) [(vr p1), (vi x1)] ((p1, true, oStringBuilder (vr p2) (vi 1) (vi 1) f_p1_3) :: (p2, true, ar ad_p2 .byte [e_p2_0, e_p2_1, (vi 0), (vi 0)]) :: F) (fun v D' => (v = some (vr p1) ∧ (p2, true, ar ad_p2 .byte [e_p2_0, e_p2_1, (vi x1.toInt8.toInt32), (vi (x1 >>> ((8 : Int32) &&& 31)).toInt8.toInt32)]) :: (p1, true, oStringBuilder (vr p2) (vi 1) (vi 2) f_p1_3) :: F = D')) := by
  refine Con.of (ls := #[rv p1, iv x1]) (by decide +kernel) rfl ?_
  refine W.aloadN d26_0 rfl rfl ?_
  refine W.iloadN d26_1 rfl ?_
  refine W.callUp (as := [(vi x1)]) 0 [] d26_2 (wq hw 158 rfl) (same_self (by rfl) (by decide) (wq hw 159 rfl) (wq hw 110 rfl) (wq hw 111 rfl)) (wq hw 159 rfl) (wq hw 120 rfl) (by decide) (wq hw 71 rfl) (wq hw 161 rfl) (Hp.ins m0) (c198_append hw hs (hx1 := hx1)) pd_C_Ljava_lang_AbstractStringBuilder_ rfl rfl rfl rfl (by decide) (fun v D' h => ?_)
  obtain ⟨rfl, rfl⟩ := h
  show W _ _ _ _ _ _ _ _ _ _ _ _ 5 _ [(vr p1)]
  refine W.popv d26_5 rfl ?_
  refine W.aloadN d26_6 rfl rfl ?_
  exact W.areturn d26_7 rfl rfl rfl (by decide) ⟨rfl, rfl⟩
theorem c203_copyOfRange {Z a0} (hw : HW a0 Z) (hs : SF Z) {p1 : Addr} {x1 : Int32} (hx1 : 256 ≤ x1.toInt ∧ x1.toInt ≤ 65535) {x2 : Int32} (hx2 : 0 ≤ x2.toInt ∧ x2.toInt ≤ 65535) {w_p1 : Bool} {F : List Ent} (mp1 : (p1, w_p1, ar "[B" .byte [(vi x1.toInt8.toInt32), (vi (x1 >>> ((8 : Int32) &&& 31)).toInt8.toInt32), (vi x2.toInt8.toInt32), (vi (x2 >>> ((8 : Int32) &&& 31)).toInt8.toInt32)]) ∈ F) : Con Z EL y29 y29b 3 y29r (rmm 1 1 4 14) [(vr p1), (vi 0), (vi 4)] (F) (fun v D' => (∃ a1 : Addr, v = some (vr a1) ∧ (a1, true, ar "[B" .byte [(vi x1.toInt8.toInt32), (vi (x1 >>> ((8 : Int32) &&& 31)).toInt8.toInt32), (vi x2.toInt8.toInt32), (vi (x2 >>> ((8 : Int32) &&& 31)).toInt8.toInt32)]) :: F = D')) := by
  refine Con.of (ls := #[rv p1, iv 0, iv 4]) (by decide +kernel) rfl ?_
  refine W.iloadN d22_0 rfl ?_
  refine W.ifN d22_1 (n_ne (by decide)) ?_
  refine W.iloadN d22_4 rfl ?_
  refine W.aloadN d22_5 rfl rfl ?_
  refine W.alen (4) d22_6 mp1 rfl ?_
  refine W.icmpY 17 d22_7 (y_eq (by decide)) (by decide) ?_
  refine W.aloadN d22_17 rfl rfl ?_
  refine W.clone 0 4 d22_18 (wq hw 133 rfl) (wq hw 134 rfl) (wq hw 138 rfl) (wq hw 136 rfl) (wq hw 137 rfl) (wq hw 139 rfl) mp1 (by decide) rfl rfl rfl (by decide) (fun a1 => ?_)
  show W _ _ _ _ _ _ _ _ _ _ _ _ 21 _ [(vr a1)]
  refine W.castY d22_21 (wq hw 140 rfl) (Hp.insA m0 (by decide)) ?_
  exact W.areturn d22_24 rfl rfl rfl (by decide) ⟨a1, rfl, rfl⟩
theorem c202_init {Z a0} (hw : HW a0 Z) (hs : SF Z) {p1 p2 p3 : Addr} {x1 : Int32} (hx1 : 256 ≤ x1.toInt ∧ x1.toInt ≤ 65535) {x2 : Int32} (hx2 : 0 ≤ x2.toInt ∧ x2.toInt ≤ 65535) {w_p2 : Bool} {w_p3 : Bool} {F : List Ent} (mp2 : (p2, w_p2, oStringBuilder (vr p3) (vi 1) (vi 2) (vi 0)) ∈ F) (mp3 : (p3, w_p3, ar "[B" .byte [(vi x1.toInt8.toInt32), (vi (x1 >>> ((8 : Int32) &&& 31)).toInt8.toInt32), (vi x2.toInt8.toInt32), (vi (x2 >>> ((8 : Int32) &&& 31)).toInt8.toInt32)]) ∈ F) : Con Z EL y30 y30b 5 y30r (rmm 2 1 4 29) [(vr p1), (vr p2), .null] ((p1, true, oString .null (vi 0)) :: F) (fun v D' => (∃ a1 : Addr, v = none ∧ (a1, true, ar "[B" .byte [(vi x1.toInt8.toInt32), (vi (x1 >>> ((8 : Int32) &&& 31)).toInt8.toInt32), (vi x2.toInt8.toInt32), (vi (x2 >>> ((8 : Int32) &&& 31)).toInt8.toInt32)]) :: (p1, true, oString (vr a1) (vi 1)) :: F = D')) := by
  refine Con.of (ls := #[rv p1, rv p2, .val .null, uu, uu]) (by decide +kernel) rfl ?_
  refine W.aloadN d17_0 rfl rfl ?_
  refine W.initO 0 d17_1 (wq hw 11 rfl) (wq hw 12 rfl) (wq hw 13 rfl) rfl rfl (by decide) ?_
  refine W.aloadN d17_4 rfl rfl ?_
  refine W.callV (as := []) 0 [] d17_5 (wq hw 108 rfl) (wq hw 109 rfl) (wq hw 111 rfl) (wq hw 111 rfl) (wq hw 110 rfl) (wq hw 71 rfl) (wq hw 112 rfl) (Hp.exa (mS mp2)) (c41_getValue hw hs (mp1 := (mS mp2))) (by decide) pd___B rfl rfl rfl rfl (by decide) (fun v D' h => ?_)
  obtain ⟨rfl, rfl⟩ := h
  show W _ _ _ _ _ _ _ _ _ _ _ _ 8 _ [(vr p3)]
  refine W.astoreN (ls' := #[rv p1, rv p2, .val .null, rv p3, uu]) d17_8 rfl rfl ?_
  refine W.aloadN d17_9 rfl rfl ?_
  refine W.callVN (as := []) 0 [] d17_10 (wq hw 113 rfl) (wq hw 114 rfl) (by rfl) (wq hw 110 rfl) (wq hw 111 rfl) (wq hw 116 rfl) (wq hw 117 rfl) (wq hw 52 rfl) (wq hw 118 rfl) (Hp.exa (mS mp2)) (c42_length hw hs (mp1 := (mS mp2))) (by decide) pd__I rfl rfl rfl rfl (by decide) (fun v D' h => ?_)
  obtain ⟨rfl, rfl⟩ := h
  show W _ _ _ _ _ _ _ _ _ _ _ _ 13 _ [(vi 2)]
  refine W.istore (ls' := #[rv p1, rv p2, .val .null, rv p3, iv 2]) d17_13 rfl ?_
  refine W.aloadN d17_15 rfl rfl ?_
  refine W.callV (as := []) 0 [] d17_16 (wq hw 124 rfl) (wq hw 125 rfl) (wq hw 127 rfl) (wq hw 127 rfl) (wq hw 126 rfl) (wq hw 71 rfl) (wq hw 128 rfl) (Hp.exa (mS mp2)) (c79_isLatin1 hw hs (mp1 := (mS mp2))) (by decide) pd__Z rfl rfl rfl rfl (by decide) (fun v D' h => ?_)
  obtain ⟨rfl, rfl⟩ := h
  show W _ _ _ _ _ _ _ _ _ _ _ _ 19 _ [(vi 0)]
  refine W.ifY 41 d17_19 (y_eq (by decide)) (by decide) ?_
  refine W.gets d17_41 (wq hw 63 rfl) Via.refl hs.1 ?_
  refine W.ifN d17_44 (n_eq (by have := hs.2.1; have := q0; omega)) ?_
  refine W.aloadN d17_47 rfl rfl ?_
  refine W.getf d17_48 (wq hw 247 rfl) Via.refl (mS mp2) m3 ?_
  refine W.ifY 79 d17_51 (y_eq (by decide)) (by decide) ?_
  refine W.aloadN d17_79 rfl rfl ?_
  refine W.iconst (1) d17_80 (by decide) ?_
  refine W.putf (D' := (p1, true, oString .null (vi 1)) :: F) 0 1 d17_81 (wq hw 21 rfl) Via.refl rfl rfl (Or.inr ⟨(wq hw 17 rfl), rfl, rfl⟩) (wq hw 2 rfl) pfB (nw_byte (by decide)) (ft_byte (by decide)) rfl ?_
  refine W.aloadN d17_84 rfl rfl ?_
  refine W.aloadN d17_85 rfl rfl ?_
  refine W.iconst (0) d17_86 (by decide) ?_
  refine W.iload d17_87 rfl ?_
  refine W.iconst (1) d17_89 (by decide) ?_
  refine W.ishlK (4 : Int32) d17_90 (by decide) ?_
  refine W.callS (as := [(vr p3), (vi 0), (vi 4)]) 1 [(vr p1)] d17_91 (wq hw 129 rfl) (wq hw 130 rfl) (wq hw 131 rfl) (wq hw 132 rfl) (c203_copyOfRange hw hs (hx1 := hx1) (hx2 := hx2) (mp1 := (mS mp3))) (by decide) pd__BII__B rfl rfl rfl rfl (by decide) (fun v D' h => ?_)
  obtain ⟨a1, rfl, rfl⟩ := h
  show W _ _ _ _ _ _ _ _ _ _ _ _ 94 _ [(vr a1), (vr p1)]
  refine W.putf (D' := (a1, true, ar "[B" .byte [(vi x1.toInt8.toInt32), (vi (x1 >>> ((8 : Int32) &&& 31)).toInt8.toInt32), (vi x2.toInt8.toInt32), (vi (x2 >>> ((8 : Int32) &&& 31)).toInt8.toInt32)]) :: (p1, true, oString (vr a1) (vi 1)) :: F) 1 0 d17_94 (wq hw 20 rfl) Via.refl rfl rfl (Or.inr ⟨(wq hw 16 rfl), rfl, rfl⟩) (wq hw 2 rfl) pf_B rfl rfl rfl ?_
  exact W.return_ d17_97 rfl (by decide) ⟨a1, rfl, rfl⟩
theorem c201_init {Z a0} (hw : HW a0 Z) (hs : SF Z) {p1 p2 p3 : Addr} {x1 : Int32} (hx1 : 256 ≤ x1.toInt ∧ x1.toInt ≤ 65535) {x2 : Int32} (hx2 : 0 ≤ x2.toInt ∧ x2.toInt ≤ 65535) {w_p2 : Bool} {w_p3 : Bool} {F : List Ent} (mp2 : (p2, w_p2, oStringBuilder (vr p3) (vi 1) (vi 2) (vi 0)) ∈ F) (mp3 : (p3, w_p3, ar "[B" .byte [(vi x1.toInt8.toInt32), (vi (x1 >>> ((8 : Int32) &&& 31)).toInt8.toInt32), (vi x2.toInt8.toInt32), (vi (x2 >>> ((8 : Int32) &&& 31)).toInt8.toInt32)]) ∈ F) : Con Z EL y31 y31b 2 y31r (rmm 3 1 4 45) [(vr p1), (vr p2)] ((p1, true, oString .null (vi 0)) :: F) (fun v D' => (∃ a1 : Addr, v = none ∧ (a1, true, ar "[B" .byte [(vi x1.toInt8.toInt32), (vi (x1 >>> ((8 : Int32) &&& 31)).toInt8.toInt32), (vi x2.toInt8.toInt32), (vi (x2 >>> ((8 : Int32) &&& 31)).toInt8.toInt32)]) :: (p1, true, oString (vr a1) (vi 1)) :: F = D')) := by
  refine Con.of (ls := #[rv p1, rv p2]) (by decide +kernel) rfl ?_
  refine W.aloadN d16_0 rfl rfl ?_
  refine W.aloadN d16_1 rfl rfl ?_
  refine W.aconstNull d16_2 ?_
  refine W.callI (as := [(vr p2), .null]) 0 [] d16_3 rfl (wq hw 105 rfl) (wq hw 106 rfl) (wq hw 3 rfl) (wq hw 107 rfl) (c202_init hw hs (hx1 := hx1) (hx2 := hx2) (mp2 := mp2) (mp3 := mp3)) (by decide) pd_Ljava_lang_AbstractStringBuilder_Ljava_lang_Void__V rfl rfl rfl rfl (by decide) (fun v D' h => ?_)
  obtain ⟨a1, rfl, rfl⟩ := h
  show W _ _ _ _ _ _ _ _ _ _ _ _ 6 _ []
  exact W.return_ d16_6 rfl (by decide) ⟨a1, rfl, rfl⟩
theorem c200_toString {Z a0} (hw : HW a0 Z) (hs : SF Z) {p1 p2 : Addr} {x1 : Int32} (hx1 : 256 ≤ x1.toInt ∧ x1.toInt ≤ 65535) {x2 : Int32} (hx2 : 0 ≤ x2.toInt ∧ x2.toInt ≤ 65535) {w_p1 : Bool} {w_p2 : Bool} {F : List Ent} (mp1 : (p1, w_p1, oStringBuilder (vr p2) (vi 1) (vi 2) (vi 0)) ∈ F) (mp2 : (p2, w_p2, ar "[B" .byte [(vi x1.toInt8.toInt32), (vi (x1 >>> ((8 : Int32) &&& 31)).toInt8.toInt32), (vi x2.toInt8.toInt32), (vi (x2 >>> ((8 : Int32) &&& 31)).toInt8.toInt32)]) ∈ F) : Con Z EL y32 y32b 1 y32r (rmm 4 2 8 59) [(vr p1)] (F) (fun v D' => (∃ a1 a2 : Addr, v = some (vr a1) ∧ (a2, true, ar "[B" .byte [(vi x1.toInt8.toInt32), (vi (x1 >>> ((8 : Int32) &&& 31)).toInt8.toInt32), (vi x2.toInt8.toInt32), (vi (x2 >>> ((8 : Int32) &&& 31)).toInt8.toInt32)]) :: (a1, true, oString (vr a2) (vi 1)) :: F = D')) := by
  refine Con.of (ls := #[rv p1]) (by decide +kernel) rfl ?_
  refine W.new d15_0 (wq hw 101 rfl) (wq hw 2 rfl) (wq hw 3 rfl) (laString hw) (by decide) (by decide) (fun a1 => ?_)
  show W _ _ _ _ _ _ _ _ _ _ _ _ 3 _ [(vr a1)]
  refine W.dup d15_3 rfl ?_
  refine W.aloadN d15_4 rfl rfl ?_
  refine W.callI (as := [(vr p1)]) 1 [(vr a1)] d15_5 rfl (wq hw 102 rfl) (wq hw 103 rfl) (wq hw 3 rfl) (wq hw 104 rfl) (c201_init hw hs (hx1 := hx1) (hx2 := hx2) (mp2 := mp1) (mp3 := mp2)) (by decide) pd_Ljava_lang_StringBuilder__V rfl rfl rfl rfl (by decide) (fun v D' h => ?_)
  obtain ⟨a2, rfl, rfl⟩ := h
  show W _ _ _ _ _ _ _ _ _ _ _ _ 8 _ [(vr a1)]
  exact W.areturn d15_8 rfl rfl rfl (by decide) ⟨a1, a2, rfl, rfl⟩
theorem c187_lowerCase {Z a0} (hw : HW a0 Z) (hs : SF Z) {p1 p2 p3 : Addr} {x2 : Int32} (hx2 : 256 ≤ x2.toInt ∧ x2.toInt ≤ 65535) {x3 : Int32} (hx3 : 0 ≤ x3.toInt ∧ x3.toInt ≤ 65535) {f_p1_0 f_p1_2 f_p1_3 : Value} {w_p1 : Bool} {w_p2 : Bool} {w_p3 : Bool} {ad_p3 : String} {F : List Ent} (mp1 : (p1, w_p1, oJdqlLexer_Token f_p1_0 (vr p2) f_p1_2 f_p1_3) ∈ F) (mp2 : (p2, w_p2, oString (vr p3) (vi 1)) ∈ F) (mp3 : (p3, w_p3, ar ad_p3 .byte [(vi x2.toInt8.toInt32), (vi (x2 >>> ((8 : Int32) &&& 31)).toInt8.toInt32), (vi x3.toInt8.toInt32), (vi (x3 >>> ((8 : Int32) &&& 31)).toInt8.toInt32)]) ∈ F) : Con Z EL y33 y33b 6 y33r (rmm 8 6 20 115) [(vr p1)] (F) (fun v D' => (∃ a9 a10 : Addr, v = some (vr a9) ∧ (a10, true, ar "[B" .byte [(vi (lc x2).toInt8.toInt32), (vi ((lc x2) >>> ((8 : Int32) &&& 31)).toInt8.toInt32), (vi (lc x3).toInt8.toInt32), (vi ((lc x3) >>> ((8 : Int32) &&& 31)).toInt8.toInt32)]) :: (a9, true, oString (vr a10) (vi 1)) :: F = D')) := by
  refine Con.of (ls := #[rv p1, uu, uu, uu, uu, uu]) (by decide +kernel) rfl ?_
  refine W.new d6_0 (wq hw 50 rfl) (wq hw 51 rfl) (wq hw 52 rfl) (laStringBuilder hw) (by decide) (by decide) (fun a1 => ?_)
  show W _ _ _ _ _ _ _ _ _ _ _ _ 3 _ [(vr a1)]
  refine W.dup d6_3 rfl ?_
  refine W.aloadN d6_4 rfl rfl ?_
  refine W.getf d6_5 (wq hw 39 rfl) Via.refl (mS mp1) m1 ?_
  refine W.callV (as := []) 2 [(vr a1), (vr a1)] d6_8 (wq hw 53 rfl) (wq hw 54 rfl) (wq hw 56 rfl) (wq hw 56 rfl) (wq hw 55 rfl) (wq hw 3 rfl) (wq hw 57 rfl) (Hp.exa (mS mp2)) (c160_length hw hs (hvs_p2 := rfl) (mp1 := (mS mp2)) (mp2 := (mS mp3))) (by decide) pd__I rfl rfl rfl rfl (by decide) (fun v D' h => ?_)
  obtain ⟨rfl, rfl⟩ := h
  show W _ _ _ _ _ _ _ _ _ _ _ _ 11 _ [(vi 2), (vr a1), (vr a1)]
  refine W.callI (as := [(vi 2)]) 1 [(vr a1)] d6_11 rfl (wq hw 64 rfl) (wq hw 65 rfl) (wq hw 52 rfl) (wq hw 66 rfl) (c140_init hw hs) (by decide) pd_I_V rfl rfl rfl rfl (by decide) (fun v D' h => ?_)
  obtain ⟨a2, rfl, rfl⟩ := h
  show W _ _ _ _ _ _ _ _ _ _ _ _ 14 _ [(vr a1)]
  refine W.astoreN (ls' := #[rv p1, rv a1, uu, uu, uu, uu]) d6_14 rfl rfl ?_
  refine W.aloadN d6_15 rfl rfl ?_
  refine W.getf d6_16 (wq hw 39 rfl) Via.refl (mS (mS mp1)) m1 ?_
  refine W.callV (as := []) 0 [] d6_19 (wq hw 79 rfl) (wq hw 80 rfl) (wq hw 82 rfl) (wq hw 82 rfl) (wq hw 81 rfl) (wq hw 3 rfl) (wq hw 83 rfl) (Hp.exa (mS (mS mp2))) (c161_toCharArray hw hs (hx1 := (by omega)) (hx2 := hx3) (mp1 := (mS (mS mp2))) (mp2 := (mS (mS mp3)))) (by decide) pd___C rfl rfl rfl rfl (by decide) (fun v D' h => ?_)
  obtain ⟨a3, rfl, rfl⟩ := h
  show W _ _ _ _ _ _ _ _ _ _ _ _ 22 _ [(vr a3)]
  refine W.astoreN (ls' := #[rv p1, rv a1, rv a3, uu, uu, uu]) d6_22 rfl rfl ?_
  refine W.aloadN d6_23 rfl rfl ?_
  refine W.alen (2) d6_24 m0 rfl ?_
  refine W.istoreN (ls' := #[rv p1, rv a1, rv a3, iv 2, uu, uu]) d6_25 rfl ?_
  refine W.iconst (0) d6_26 (by decide) ?_
  refine W.istore (ls' := #[rv p1, rv a1, rv a3, iv 2, iv 0, uu]) d6_27 rfl ?_
  refine W.iload d6_29 rfl ?_
  refine W.iloadN d6_31 rfl ?_
  refine W.icmpN d6_32 (n_ge (by decide)) ?_
  refine W.aloadN d6_35 rfl rfl ?_
  refine W.iload d6_36 rfl ?_
  refine W.caload 0 d6_38 m0 ix0 rfl ?_
  refine W.istore (ls' := #[rv p1, rv a1, rv a3, iv 2, iv 0, iv x2]) d6_39 rfl ?_
  refine W.aloadN d6_41 rfl rfl ?_
  have K5 : W Z EL (rmm 8 6 20 115) "com/example/rochester/rochester/JdqlLexer$Token" "lowerCase" prog_12_method_5_code 6 (Option.some (Jvm.ClassFile.FieldType.object "java/lang/String")) (fun v D' => (∃ a9 a10 : Addr, v = some (vr a9) ∧ (a10, true, ar "[B" .byte [(vi (lc x2).toInt8.toInt32), (vi ((lc x2) >>> ((8 : Int32) &&& 31)).toInt8.toInt32), (vi (lc x3).toInt8.toInt32), (vi ((lc x3) >>> ((8 : Int32) &&& 31)).toInt8.toInt32)]) :: (a9, true, oString (vr a10) (vi 1)) :: F = D')) ((a3, true, ar "[C" .char [(vi x2), (vi x3)]) :: (a2, true, ar "[B" .byte [(vi 0), (vi 0)]) :: (a1, true, oStringBuilder (vr a2) (vi 0) (vi 0) (vi 0)) :: F) 3 8 70 #[rv p1, rv a1, rv a3, iv 2, iv 0, iv x2] [(vi (lc x2)), (vr a1)] := by
   refine W.front 2 (D' := (a1, true, oStringBuilder (vr a2) (vi 0) (vi 0) (vi 0)) :: (a3, true, ar "[C" .char [(vi x2), (vi x3)]) :: (a2, true, ar "[B" .byte [(vi 0), (vi 0)]) :: F) rfl rfl ?_
   refine W.callV (as := [(vi (lc x2))]) 0 [] d6_70 (wq hw 153 rfl) (wq hw 154 rfl) (wq hw 156 rfl) (wq hw 156 rfl) (wq hw 155 rfl) (wq hw 52 rfl) (wq hw 157 rfl) (Hp.exa m0) (c188_append hw hs (hx1 := (by have := a_lc x2; omega)) (hvs_p2 := rfl) (mp2 := m1)) (by decide) pd_C_Ljava_lang_StringBuilder_ rfl rfl rfl rfl (by decide) (fun v D' h => ?_)
   obtain ⟨a6, rfl, rfl⟩ := h
   show W _ _ _ _ _ _ _ _ _ _ _ _ 73 _ [(vr a1)]
   refine W.popv d6_73 rfl ?_
   refine W.iincK (ls' := #[rv p1, rv a1, rv a3, iv 2, iv 1, iv x2]) (1) (1 : Int32) d6_74 (by decide) rfl (by decide) rfl ?_
   refine W.goto 29 d6_77 (by decide) ?_
   refine W.iload d6_29 rfl ?_
   refine W.iloadN d6_31 rfl ?_
   refine W.icmpN d6_32 (n_ge (by decide)) ?_
   refine W.aloadN d6_35 rfl rfl ?_
   refine W.iload d6_36 rfl ?_
   refine W.caload 1 d6_38 m2 ix1 rfl ?_
   refine W.istore (ls' := #[rv p1, rv a1, rv a3, iv 2, iv 1, iv x3]) d6_39 rfl ?_
   refine W.aloadN d6_41 rfl rfl ?_
   have K8 : W Z EL (rmm 8 6 20 115) "com/example/rochester/rochester/JdqlLexer$Token" "lowerCase" prog_12_method_5_code 6 (Option.some (Jvm.ClassFile.FieldType.object "java/lang/String")) (fun v D' => (∃ a9 a10 : Addr, v = some (vr a9) ∧ (a10, true, ar "[B" .byte [(vi (lc x2).toInt8.toInt32), (vi ((lc x2) >>> ((8 : Int32) &&& 31)).toInt8.toInt32), (vi (lc x3).toInt8.toInt32), (vi ((lc x3) >>> ((8 : Int32) &&& 31)).toInt8.toInt32)]) :: (a9, true, oString (vr a10) (vi 1)) :: F = D')) ((a6, true, ar "[B" .byte [(vi (lc x2).toInt8.toInt32), (vi ((lc x2) >>> ((8 : Int32) &&& 31)).toInt8.toInt32), (vi 0), (vi 0)]) :: (a1, true, oStringBuilder (vr a6) (vi 1) (vi 1) (vi 0)) :: (a3, true, ar "[C" .char [(vi x2), (vi x3)]) :: (a2, true, ar "[B" .byte [(vi 0), (vi 0)]) :: F) 4 12 70 #[rv p1, rv a1, rv a3, iv 2, iv 1, iv x3] [(vi (lc x3)), (vr a1)] := by
    refine W.front 1 (D' := (a1, true, oStringBuilder (vr a6) (vi 1) (vi 1) (vi 0)) :: (a6, true, ar "[B" .byte [(vi (lc x2).toInt8.toInt32), (vi ((lc x2) >>> ((8 : Int32) &&& 31)).toInt8.toInt32), (vi 0), (vi 0)]) :: (a3, true, ar "[C" .char [(vi x2), (vi x3)]) :: (a2, true, ar "[B" .byte [(vi 0), (vi 0)]) :: F) rfl rfl ?_
    refine W.callV (as := [(vi (lc x3))]) 0 [] d6_70 (wq hw 153 rfl) (wq hw 154 rfl) (wq hw 156 rfl) (wq hw 156 rfl) (wq hw 155 rfl) (wq hw 52 rfl) (wq hw 157 rfl) (Hp.exa m0) (c197_append hw hs (hx1 := (by have := a_lc x3; omega))) (by decide) pd_C_Ljava_lang_StringBuilder_ rfl rfl rfl rfl (by decide) (fun v D' h => ?_)
    obtain ⟨rfl, rfl⟩ := h
    show W _ _ _ _ _ _ _ _ _ _ _ _ 73 _ [(vr a1)]
    refine W.popv d6_73 rfl ?_
    refine W.iincK (ls' := #[rv p1, rv a1, rv a3, iv 2, iv 2, iv x3]) (1) (2 : Int32) d6_74 (by decide) rfl (by decide) rfl ?_
    refine W.goto 29 d6_77 (by decide) ?_
    refine W.iload d6_29 rfl ?_
    refine W.iloadN d6_31 rfl ?_
    refine W.icmpY 80 d6_32 (y_ge (by decide)) (by decide) ?_
    refine W.aloadN d6_80 rfl rfl ?_
    refine W.callV (as := []) 0 [] d6_81 (wq hw 96 rfl) (wq hw 97 rfl) (wq hw 99 rfl) (wq hw 99 rfl) (wq hw 98 rfl) (wq hw 52 rfl) (wq hw 100 rfl) (Hp.exa m1) (c200_toString hw hs (hx1 := (by have := a_lc x2; omega)) (hx2 := (by have := a_lc x3; omega)) (mp1 := m1) (mp2 := m0)) (by decide) pd__Ljava_lang_String_ rfl rfl rfl rfl (by decide) (fun v D' h => ?_)
    obtain ⟨a9, a10, rfl, rfl⟩ := h
    show W _ _ _ _ _ _ _ _ _ _ _ _ 84 _ [(vr a9)]
    refine W.dropAt 2 (D' := (a10, true, ar "[B" .byte [(vi (lc x2).toInt8.toInt32), (vi ((lc x2) >>> ((8 : Int32) &&& 31)).toInt8.toInt32), (vi (lc x3).toInt8.toInt32), (vi ((lc x3) >>> ((8 : Int32) &&& 31)).toInt8.toInt32)]) :: (a9, true, oString (vr a10) (vi 1)) :: (a1, true, oStringBuilder (vr a6) (vi 1) (vi 2) (vi 0)) :: (a3, true, ar "[C" .char [(vi x2), (vi x3)]) :: (a2, true, ar "[B" .byte [(vi 0), (vi 0)]) :: F) rfl ?_
    refine W.dropAt 2 (D' := (a10, true, ar "[B" .byte [(vi (lc x2).toInt8.toInt32), (vi ((lc x2) >>> ((8 : Int32) &&& 31)).toInt8.toInt32), (vi (lc x3).toInt8.toInt32), (vi ((lc x3) >>> ((8 : Int32) &&& 31)).toInt8.toInt32)]) :: (a9, true, oString (vr a10) (vi 1)) :: (a3, true, ar "[C" .char [(vi x2), (vi x3)]) :: (a2, true, ar "[B" .byte [(vi 0), (vi 0)]) :: F) rfl ?_
    refine W.dropAt 2 (D' := (a10, true, ar "[B" .byte [(vi (lc x2).toInt8.toInt32), (vi ((lc x2) >>> ((8 : Int32) &&& 31)).toInt8.toInt32), (vi (lc x3).toInt8.toInt32), (vi ((lc x3) >>> ((8 : Int32) &&& 31)).toInt8.toInt32)]) :: (a9, true, oString (vr a10) (vi 1)) :: (a2, true, ar "[B" .byte [(vi 0), (vi 0)]) :: F) rfl ?_
    refine W.dropAt 2 (D' := (a10, true, ar "[B" .byte [(vi (lc x2).toInt8.toInt32), (vi ((lc x2) >>> ((8 : Int32) &&& 31)).toInt8.toInt32), (vi (lc x3).toInt8.toInt32), (vi ((lc x3) >>> ((8 : Int32) &&& 31)).toInt8.toInt32)]) :: (a9, true, oString (vr a10) (vi 1)) :: F) rfl ?_
    exact W.areturn d6_84 rfl rfl rfl (by decide) ⟨a9, a10, rfl, rfl⟩
   refine W.iload d6_42 rfl ?_
   refine W.bipush (65) d6_44 (by decide) ?_
   refine W.icmp 68 d6_46 (by decide) (fun h1 => ?_) (fun h1 => ?_)
   ·
    have ih1 := t_lt h1
    refine W.iload d6_68 rfl ?_
    refine W.top (y := (lc x3)) (lc_of (by have := q65; omega)) ?_
    exact W.mono (by decide) (by decide) (K8  )
   ·
    have ih1 := f_lt h1
    refine W.iload d6_49 rfl ?_
    refine W.bipush (90) d6_51 (by decide) ?_
    refine W.icmp 68 d6_53 (by decide) (fun h2 => ?_) (fun h2 => ?_)
    ·
     have ih2 := t_gt h2
     refine W.iload d6_68 rfl ?_
     refine W.top (y := (lc x3)) (lc_of (by have := q65; have := q90; omega)) ?_
     exact W.mono (by decide) (by decide) (K8  )
    ·
     have ih2 := f_gt h2
     refine W.iload d6_56 rfl ?_
     refine W.bipush (65) d6_58 (by decide) ?_
     refine W.isub d6_60 ?_
     refine W.bipush (97) d6_61 (by decide) ?_
     refine W.iadd d6_63 ?_
     refine W.i2cK ((x3 - (65 : Int32)) + (97 : Int32)) d6_64 (z_i2c (by have := q65; have := a_sub x3 (65 : Int32); have := q97; have := a_add (x3 - (65 : Int32)) (97 : Int32); have := q90; omega)) ?_
     refine W.goto 70 d6_65 (by decide) ?_
     refine W.top (y := (lc x3)) (lc_of (by have := q65; have := a_sub x3 (65 : Int32); have := q97; have := a_add (x3 - (65 : Int32)) (97 : Int32); have := q90; omega)) ?_
     exact W.mono (by decide) (by decide) (K8  )
  refine W.iload d6_42 rfl ?_
  refine W.bipush (65) d6_44 (by decide) ?_
  refine W.icmpN d6_46 (n_lt (by have := q65; omega)) ?_
  refine W.iload d6_49 rfl ?_
  refine W.bipush (90) d6_51 (by decide) ?_
  refine W.icmpY 68 d6_53 (y_gt (by have := q90; omega)) (by decide) ?_
  refine W.iload d6_68 rfl ?_
  refine W.top (y := (lc x2)) (lc_of (by omega)) ?_
  exact W.mono (by decide) (by decide) (K5  )
theorem c207_compress {Z a0} (hw : HW a0 Z) (hs : SF Z) {p1 p2 : Addr} {x1 : Int32} (hx1 : 0 ≤ x1.toInt ∧ x1.toInt ≤ 65535) {ad_p2 : String} {w_p1 : Bool} {ad_p1 : String} {F : List Ent} (mp1 : (p1, w_p1, ar ad_p1 .char [(vi x1)]) ∈ F) : Con Z EL y1 y1b 7 y1r (rmm 0 0 0 0) [(vr p1), (vi 0), (vr p2), (vi 0), (vi 1)] ((p2, true, ar ad_p2 .byte [(vi 0)]) :: F) (fun v D' => (Cd .le x1 (255 : Int32) ∧ v = some (vi 1) ∧ (p2, true, ar ad_p2 .byte [(vi x1.toInt8.toInt32)]) :: F = D') ∨ (¬ Cd .le x1 (255 : Int32) ∧ v = some (vi 0) ∧ (p2, true, ar ad_p2 .byte [(vi 0)]) :: F = D')) := by
  refine Con.of (ls := #[rv p1, iv 0, rv p2, iv 0, iv 1, uu, uu]) (by decide +kernel) rfl ?_
  refine W.iconst (0) d24_0 (by decide) ?_
  refine W.istore (ls' := #[rv p1, iv 0, rv p2, iv 0, iv 1, iv 0, uu]) d24_1 rfl ?_
  refine W.iload d24_3 rfl ?_
  refine W.iload d24_5 rfl ?_
  refine W.icmpN d24_7 (n_ge (by decide)) ?_
  refine W.aloadN d24_10 rfl rfl ?_
  refine W.iloadN d24_11 rfl ?_
  refine W.caload 0 d24_12 (mS mp1) ix0 rfl ?_
  refine W.istore (ls' := #[rv p1, iv 0, rv p2, iv 0, iv 1, iv 0, iv x1]) d24_13 rfl ?_
  refine W.iload d24_15 rfl ?_
  refine W.sipush (255) d24_17 (by decide) ?_
  refine W.icmp 26 d24_20 (by decide) (fun h1 => ?_) (fun h1 => ?_)
  ·
   have ih1 := t_le h1
   refine W.aloadN d24_26 rfl rfl ?_
   refine W.iloadN d24_27 rfl ?_
   refine W.iload d24_28 rfl ?_
   refine W.i2b d24_30 ?_
   refine W.bastore (D' := (p2, true, ar ad_p2 .byte [(vi x1.toInt8.toInt32)]) :: F) 0 0 d24_31 rfl ix0 (Nat.le_of_ble_eq_true rfl) (z_narB (by have := a_i2b x1; have := q255; omega)) rfl ?_
   refine W.iincK (ls' := #[rv p1, iv 1, rv p2, iv 0, iv 1, iv 0, iv x1]) (1) (1 : Int32) d24_32 (by decide) rfl (by decide) rfl ?_
   refine W.iincK (ls' := #[rv p1, iv 1, rv p2, iv 1, iv 1, iv 0, iv x1]) (1) (1 : Int32) d24_35 (by decide) rfl (by decide) rfl ?_
   refine W.iincK (ls' := #[rv p1, iv 1, rv p2, iv 1, iv 1, iv 1, iv x1]) (1) (1 : Int32) d24_38 (by decide) rfl (by decide) rfl ?_
   refine W.goto 3 d24_41 (by decide) ?_
   refine W.iload d24_3 rfl ?_
   refine W.iload d24_5 rfl ?_
   refine W.icmpY 44 d24_7 (y_ge (by decide)) (by decide) ?_
   refine W.iload d24_44 rfl ?_
   exact W.ireturn d24_46 rfl (Or.inl rfl) rfl (by decide) (Or.inl ⟨h1, rfl, rfl⟩)
  ·
   have ih1 := f_le h1
   refine W.iload d24_23 rfl ?_
   exact W.ireturn d24_25 rfl (Or.inl rfl) rfl (by decide) (Or.inr ⟨h1, rfl, rfl⟩)
theorem c210_newBytesLength {Z a0} (hw : HW a0 Z) (hs : SF Z) {F : List Ent} : Con Z EL y2 y2b 1 y2r (rmm 0 0 0 0) [(vi 1)] (F) (fun v D' => (v = some (vi 2) ∧ F = D')) := by
  refine Con.of (ls := #[iv 1]) (by decide +kernel) rfl ?_
  refine W.iloadN d37_0 rfl ?_
  refine W.ifY 12 d37_1 (y_ge (by decide)) (by decide) ?_
  refine W.iloadN d37_12 rfl ?_
  refine W.ldcI d37_13 (wq hw 200 rfl) ?_
  refine W.icmpY 55 d37_15 (y_lt (by decide)) (by decide) ?_
  refine W.iloadN d37_55 rfl ?_
  refine W.iconst (1) d37_56 (by decide) ?_
  refine W.ishlK (2 : Int32) d37_57 (by decide) ?_
  exact W.ireturn d37_58 rfl (Or.inl rfl) rfl (by decide) ⟨rfl, rfl⟩
theorem c209_newBytesFor {Z a0} (hw : HW a0 Z) (hs : SF Z) {F : List Ent} : Con Z EL y3 y3b 1 y3r (rmm 1 1 2 12) [(vi 1)] (F) (fun v D' => (∃ a1 : Addr, v = some (vr a1) ∧ (a1, true, ar "[B" .byte [(vi 0), (vi 0)]) :: F = D')) := by
  refine Con.of (ls := #[iv 1]) (by decide +kernel) rfl ?_
  refine W.iloadN d36_0 rfl ?_
  refine W.callS (as := [(vi 1)]) 0 [] d36_1 (wq hw 197 rfl) (wq hw 198 rfl) (wq hw 145 rfl) (wq hw 199 rfl) (c210_newBytesLength hw hs) (by decide) pd_I_I rfl rfl rfl rfl (by decide) (fun v D' h => ?_)
  obtain ⟨rfl, rfl⟩ := h
  show W _ _ _ _ _ _ _ _ _ _ _ _ 4 _ [(vi 2)]
  refine W.newarr 2 (ad := "[B") (ty := .byte) d36_4 rfl (wq hw 15 rfl) ix2 rfl (by decide) (by decide) (fun a1 => ?_)
  show W _ _ _ _ _ _ _ _ _ _ _ _ 6 _ [(vr a1)]
  exact W.areturn d36_6 rfl rfl rfl (by decide) ⟨a1, rfl, rfl⟩
theorem c211_putChar {Z a0} (hw : HW a0 Z) (hs : SF Z) {p1 : Addr} {x1 : Int32} (hx1 : 0 ≤ x1.toInt ∧ x1.toInt ≤ 65535) {ad_p1 : String} {F : List Ent} : Con Z EL y4 y4b 3 y4r (rmm 0 0 0 0) [(vr p1), (vi 0), (vi x1)] ((p1, true, ar ad_p1 .byte [(vi 0), (vi 0)]) :: F) (fun v D' => (v = none ∧ (p1, true, ar ad_p1 .byte [(vi x1.toInt8.toInt32), (vi (x1 >>> ((8 : Int32) &&& 31)).toInt8.toInt32)]) :: F = D')) := by
  refine Con.of (ls := #[rv p1, iv 0, iv x1]) (by decide +kernel) rfl ?_
  refine W.gets d38_0 (wq hw 204 rfl) Via.refl hs.2.2.2.2.1 ?_
  refine W.ifY 28 d38_3 (y_ne (by decide)) (by decide) ?_
  refine W.iloadN d38_28 rfl ?_
  refine W.iconst (1) d38_29 (by decide) ?_
  refine W.ishlK (0 : Int32) d38_30 (by decide) ?_
  refine W.istoreN (ls' := #[rv p1, iv 0, iv x1]) d38_31 rfl ?_
  refine W.aloadN d38_32 rfl rfl ?_
  refine W.iloadN d38_33 rfl ?_
  refine W.iincK (ls' := #[rv p1, iv 1, iv x1]) (1) (1 : Int32) d38_34 (by decide) rfl (by decide) rfl ?_
  refine W.iloadN d38_37 rfl ?_
  refine W.gets d38_38 (wq hw 205 rfl) Via.refl hs.2.2.2.2.2.1 ?_
  refine W.ishrK x1 d38_41 (z_shr0 x1) ?_
  refine W.i2b d38_42 ?_
  refine W.bastore (D' := (p1, true, ar ad_p1 .byte [(vi x1.toInt8.toInt32), (vi 0)]) :: F) 0 0 d38_43 rfl ix0 (Nat.le_of_ble_eq_true rfl) (z_narB (by have := a_i2b x1; omega)) rfl ?_
  refine W.aloadN d38_44 rfl rfl ?_
  refine W.iloadN d38_45 rfl ?_
  refine W.iloadN d38_46 rfl ?_
  refine W.gets d38_47 (wq hw 206 rfl) Via.refl hs.2.2.2.2.2.2.1 ?_
  refine W.ishr d38_50 ?_
  refine W.i2b d38_51 ?_
  refine W.bastore (D' := (p1, true, ar ad_p1 .byte [(vi x1.toInt8.toInt32), (vi (x1 >>> ((8 : Int32) &&& 31)).toInt8.toInt32)]) :: F) 0 1 d38_52 rfl ix1 (Nat.le_of_ble_eq_true rfl) (z_narB (by have := q8; have := ashr_8 x1; have := a_i2b (x1 >>> ((8 : Int32) &&& 31)); omega)) rfl ?_
  exact W.return_ d38_53 rfl (by decide) ⟨rfl, rfl⟩
theorem c208_toBytes {Z a0} (hw : HW a0 Z) (hs : SF Z) {p1 : Addr} {x1 : Int32} (hx1 : 0 ≤ x1.toInt ∧ x1.toInt ≤ 65535) {w_p1 : Bool} {ad_p1 : String} {F : List Ent} (mp1 : (p1, w_p1, ar ad_p1 .char [(vi x1)]) ∈ F) : Con Z EL y5 y5b 5 y5r (rmm 2 1 2 24) [(vr p1), (vi 0), (vi 1)] (F) (fun v D' => (∃ a1 : Addr, v = some (vr a1) ∧ (a1, true, ar "[B" .byte [(vi x1.toInt8.toInt32), (vi (x1 >>> ((8 : Int32) &&& 31)).toInt8.toInt32)]) :: F = D')) := by
  refine Con.of (ls := #[rv p1, iv 0, iv 1, uu, uu]) (by decide +kernel) rfl ?_
  refine W.iloadN d35_0 rfl ?_
  refine W.callS (as := [(vi 1)]) 0 [] d35_1 (wq hw 194 rfl) (wq hw 195 rfl) (wq hw 145 rfl) (wq hw 196 rfl) (c209_newBytesFor hw hs) (by decide) pd_I__B rfl rfl rfl rfl (by decide) (fun v D' h => ?_)
  obtain ⟨a1, rfl, rfl⟩ := h
  show W _ _ _ _ _ _ _ _ _ _ _ _ 4 _ [(vr a1)]
  refine W.astoreN (ls' := #[rv p1, iv 0, iv 1, rv a1, uu]) d35_4 rfl rfl ?_
  refine W.iconst (0) d35_5 (by decide) ?_
  refine W.istore (ls' := #[rv p1, iv 0, iv 1, rv a1, iv 0]) d35_6 rfl ?_
  refine W.iload d35_8 rfl ?_
  refine W.iloadN d35_10 rfl ?_
  refine W.icmpN d35_11 (n_ge (by decide)) ?_
  refine W.aloadN d35_14 rfl rfl ?_
  refine W.iload d35_15 rfl ?_
  refine W.aloadN d35_17 rfl rfl ?_
  refine W.iloadN d35_18 rfl ?_
  refine W.caload 0 d35_19 (mS mp1) ix0 rfl ?_
  refine W.callS (as := [(vr a1), (vi 0), (vi x1)]) 0 [] d35_20 (wq hw 201 rfl) (wq hw 202 rfl) (wq hw 145 rfl) (wq hw 203 rfl) (c211_putChar hw hs (hx1 := hx1)) (by decide) pd__BII_V rfl rfl rfl rfl (by decide) (fun v D' h => ?_)
  obtain ⟨rfl, rfl⟩ := h
  show W _ _ _ _ _ _ _ _ _ _ _ _ 23 _ []
  refine W.iincK (ls' := #[rv p1, iv 1, iv 1, rv a1, iv 0]) (1) (1 : Int32) d35_23 (by decide) rfl (by decide) rfl ?_
  refine W.iincK (ls' := #[rv p1, iv 1, iv 1, rv a1, iv 1]) (1) (1 : Int32) d35_26 (by decide) rfl (by decide) rfl ?_
  refine W.goto 8 d35_29 (by decide) ?_
  refine W.iload d35_8 rfl ?_
  refine W.iloadN d35_10 rfl ?_
  refine W.icmpY 32 d35_11 (y_ge (by decide)) (by decide) ?_
  refine W.aloadN d35_32 rfl rfl ?_
  exact W.areturn d35_33 rfl rfl rfl (by decide) ⟨a1, rfl, rfl⟩
theorem c212_getChar {Z a0} (hw : HW a0 Z) (hs : SF Z) {p1 : Addr} {x1 : Int32} (hx1 : 0 ≤ x1.toInt ∧ x1.toInt ≤ 65535) {w_p1 : Bool} {ad_p1 : String} {F : List Ent} (mp1 : (p1, w_p1, ar ad_p1 .byte [(vi x1.toInt8.toInt32), (vi (x1 >>> ((8 : Int32) &&& 31)).toInt8.toInt32)]) ∈ F) : Con Z EL y6 y6b 2 y6r (rmm 0 0 0 0) [(vr p1), (vi 0)] (F) (fun v D' => (v = some (vi x1) ∧ F = D')) := by
  refine Con.of (ls := #[rv p1, iv 0]) (by decide +kernel) rfl ?_
  refine W.gets d39_0 (wq hw 204 rfl) Via.refl hs.2.2.2.2.1 ?_
  refine W.ifY 28 d39_3 (y_ne (by decide)) (by decide) ?_
  refine W.iloadN d39_28 rfl ?_
  refine W.iconst (1) d39_29 (by decide) ?_
  refine W.ishlK (0 : Int32) d39_30 (by decide) ?_
  refine W.istoreN (ls' := #[rv p1, iv 0]) d39_31 rfl ?_
  refine W.aloadN d39_32 rfl rfl ?_
  refine W.iloadN d39_33 rfl ?_
  refine W.iincK (ls' := #[rv p1, iv 1]) (1) (1 : Int32) d39_34 (by decide) rfl (by decide) rfl ?_
  refine W.baload 0 d39_37 mp1 ix0 rfl ?_
  refine W.sipush (255) d39_38 (by decide) ?_
  refine W.iand d39_41 ?_
  refine W.gets d39_42 (wq hw 205 rfl) Via.refl hs.2.2.2.2.2.1 ?_
  refine W.ishlK (x1.toInt8.toInt32 &&& (255 : Int32)) d39_45 (z_shl0 (x1.toInt8.toInt32 &&& (255 : Int32))) ?_
  refine W.aloadN d39_46 rfl rfl ?_
  refine W.iloadN d39_47 rfl ?_
  refine W.baload 1 d39_48 mp1 ix1 rfl ?_
  refine W.sipush (255) d39_49 (by decide) ?_
  refine W.iandK (x1 >>> ((8 : Int32) &&& 31)) d39_52 (z_b255 (by have := q8; have := ashr_8 x1; omega)) ?_
  refine W.gets d39_53 (wq hw 206 rfl) Via.refl hs.2.2.2.2.2.2.1 ?_
  refine W.ishl d39_56 ?_
  refine W.iorK x1 d39_57 (z_or8 hx1 (by have := a_i2b x1; have := q255; have := am_255 x1.toInt8.toInt32; omega) (by have := q8; have := ashr_8 x1; have := ashl_8 (x1 >>> ((8 : Int32) &&& 31)); omega)) ?_
  refine W.i2cK x1 d39_58 (z_i2c hx1) ?_
  exact W.ireturn d39_59 rfl (Or.inr (Or.inr (Or.inr (Or.inl rfl)))) (nw_char hx1) (by decide) ⟨rfl, rfl⟩
theorem c206_compress {Z a0} (hw : HW a0 Z) (hs : SF Z) {p1 : Addr} {x1 : Int32} (hx1 : 0 ≤ x1.toInt ∧ x1.toInt ≤ 65535) {w_p1 : Bool} {ad_p1 : String} {F : List Ent} (mp1 : (p1, w_p1, ar ad_p1 .char [(vi x1)]) ∈ F) : Con Z EL y7 y7b 6 y7r (rmm 3 2 3 40) [(vr p1), (vi 0), (vi 1)] (F) (fun v D' => (∃ a1 : Addr, Cd .le x1 (255 : Int32) ∧ v = some (vr a1) ∧ (a1, true, ar "[B" .byte [(vi x1.toInt8.toInt32)]) :: F = D') ∨ (∃ a2 : Addr, ¬ Cd .le x1 (255 : Int32) ∧ v = some (vr a2) ∧ (a2, true, ar "[B" .byte [(vi x1.toInt8.toInt32), (vi (x1 >>> ((8 : Int32) &&& 31)).toInt8.toInt32)]) :: F = D')) := by
  refine Con.of (ls := #[rv p1, iv 0, iv 1, uu, uu, uu]) (by decide +kernel) rfl ?_
  refine W.iloadN d23_0 rfl ?_
  refine W.newarr 1 (ad := "[B") (ty := .byte) d23_1 rfl (wq hw 15 rfl) ix1 rfl (by decide) (by decide) (fun a1 => ?_)
  show W _ _ _ _ _ _ _ _ _ _ _ _ 3 _ [(vr a1)]
  refine W.astoreN (ls' := #[rv p1, iv 0, iv 1, rv a1, uu, uu]) d23_3 rfl rfl ?_
  refine W.aloadN d23_4 rfl rfl ?_
  refine W.iloadN d23_5 rfl ?_
  refine W.aloadN d23_6 rfl rfl ?_
  refine W.iconst (0) d23_7 (by decide) ?_
  refine W.iloadN d23_8 rfl ?_
  refine W.callS (as := [(vr p1), (vi 0), (vr a1), (vi 0), (vi 1)]) 0 [] d23_9 (wq hw 147 rfl) (wq hw 148 rfl) (wq hw 145 rfl) (wq hw 149 rfl) (c207_compress hw hs (hx1 := hx1) (mp1 := mp1)) (by decide) pd__CI_BII_I rfl rfl rfl rfl (by decide) (fun v D' h => ?_)
  rcases h with ⟨h1, rfl, rfl⟩ | ⟨h2, rfl, rfl⟩
  ·
   have ih1 := t_le h1
   show W _ _ _ _ _ _ _ _ _ _ _ _ 12 _ [(vi 1)]
   refine W.istore (ls' := #[rv p1, iv 0, iv 1, rv a1, iv 1, uu]) d23_12 rfl ?_
   refine W.iload d23_14 rfl ?_
   refine W.iloadN d23_16 rfl ?_
   refine W.icmpY 57 d23_17 (y_eq (by decide)) (by decide) ?_
   refine W.aloadN d23_57 rfl rfl ?_
   exact W.areturn d23_58 rfl rfl rfl (by decide) (Or.inl ⟨a1, h1, rfl, rfl⟩)
  ·
   have ih2 := f_le h2
   show W _ _ _ _ _ _ _ _ _ _ _ _ 12 _ [(vi 0)]
   refine W.istore (ls' := #[rv p1, iv 0, iv 1, rv a1, iv 0, uu]) d23_12 rfl ?_
   refine W.iload d23_14 rfl ?_
   refine W.iloadN d23_16 rfl ?_
   refine W.icmpN d23_17 (n_eq (by decide)) ?_
   refine W.aloadN d23_20 rfl rfl ?_
   refine W.iloadN d23_21 rfl ?_
   refine W.iloadN d23_22 rfl ?_
   refine W.callS (as := [(vr p1), (vi 0), (vi 1)]) 0 [] d23_23 (wq hw 191 rfl) (wq hw 192 rfl) (wq hw 145 rfl) (wq hw 193 rfl) (c208_toBytes hw hs (hx1 := hx1) (mp1 := (mS mp1))) (by decide) pd__CII__B rfl rfl rfl rfl (by decide) (fun v D' h => ?_)
   obtain ⟨a2, rfl, rfl⟩ := h
   show W _ _ _ _ _ _ _ _ _ _ _ _ 26 _ [(vr a2)]
   refine W.astore (ls' := #[rv p1, iv 0, iv 1, rv a1, iv 0, rv a2]) d23_26 rfl rfl ?_
   refine W.aload 5 d23_28 rfl rfl ?_
   refine W.iload d23_30 rfl ?_
   refine W.callS (as := [(vr a2), (vi 0)]) 0 [] d23_32 (wq hw 207 rfl) (wq hw 208 rfl) (wq hw 145 rfl) (wq hw 209 rfl) (c212_getChar hw hs (hx1 := hx1) (mp1 := m0)) (by decide) pd__BI_C rfl rfl rfl rfl (by decide) (fun v D' h => ?_)
   obtain ⟨rfl, rfl⟩ := h
   show W _ _ _ _ _ _ _ _ _ _ _ _ 35 _ [(vi x1)]
   refine W.sipush (255) d23_35 (by decide) ?_
   refine W.icmpY 54 d23_38 (y_gt (by have := q255; omega)) (by decide) ?_
   refine W.aload 5 d23_54 rfl rfl ?_
   refine W.dropAt 1 (D' := (a2, true, ar "[B" .byte [(vi x1.toInt8.toInt32), (vi (x1 >>> ((8 : Int32) &&& 31)).toInt8.toInt32)]) :: F) rfl ?_
   exact W.areturn d23_56 rfl rfl rfl (by decide) (Or.inr ⟨a2, h2, rfl, rfl⟩)
theorem c213_coderFromArrayLen {Z a0} (hw : HW a0 Z) (hs : SF Z) {p1 : Addr} {vs_p1 : List Value} (hvs_p1 : vs_p1.length = 1) {w_p1 : Bool} {ad_p1 : String} {F : List Ent} (mp1 : (p1, w_p1, ar ad_p1 .byte vs_p1) ∈ F) : Con Z EL y8 y8b 2 y8r (rmm 0 0 0 0) [(vr p1), (vi 1)] (F) (fun v D' => (v = some (vi 0) ∧ F = D')) := by
  refine Con.of (ls := #[rv p1, iv 1]) (by decide +kernel) rfl ?_
  refine W.iloadN d25_0 rfl ?_
  refine W.aloadN d25_1 rfl rfl ?_
  refine W.alen (1) d25_2 mp1 (by rw [hvs_p1]; rfl) ?_
  refine W.isubK (0 : Int32) d25_3 (by decide) ?_
  refine W.bipush (31) d25_4 (by decide) ?_
  refine W.iushrK (0 : Int32) d25_6 (by decide) ?_
  refine W.i2bK (0 : Int32) d25_7 (by decide) ?_
  exact W.ireturn d25_8 rfl (Or.inr (Or.inr (Or.inl rfl))) (nw_byte (by decide)) (by decide) ⟨rfl, rfl⟩
theorem c214_coderFromArrayLen {Z a0} (hw : HW a0 Z) (hs : SF Z) {p1 : Addr} {vs_p1 : List Value} (hvs_p1 : vs_p1.length = 2) {w_p1 : Bool} {ad_p1 : String} {F : List Ent} (mp1 : (p1, w_p1, ar ad_p1 .byte vs_p1) ∈ F) : Con Z EL y8 y8b 2 y8r (rmm 0 0 0 0) [(vr p1), (vi 1)] (F) (fun v D' => (v = some (vi 1) ∧ F = D')) := by
  refine Con.of (ls := #[rv p1, iv 1]) (by decide +kernel) rfl ?_
  refine W.iloadN d25_0 rfl ?_
  refine W.aloadN d25_1 rfl rfl ?_
  refine W.alen (2) d25_2 mp1 (by rw [hvs_p1]; rfl) ?_
  refine W.isubK (-1 : Int32) d25_3 (by decide) ?_
  refine W.bipush (31) d25_4 (by decide) ?_
  refine W.iushrK (1 : Int32) d25_6 (by decide) ?_
  refine W.i2bK (1 : Int32) d25_7 (by decide) ?_
  exact W.ireturn d25_8 rfl (Or.inr (Or.inr (Or.inl rfl))) (nw_byte (by decide)) (by decide) ⟨rfl, rfl⟩
theorem c205_init {Z a0} (hw : HW a0 Z) (hs : SF Z) {p1 p2 : Addr} {x1 : Int32} (hx1 : 0 ≤ x1.toInt ∧ x1.toInt ≤ 65535) {w_p2 : Bool} {ad_p2 : String} {F : List Ent} (mp2 : (p2, w_p2, ar ad_p2 .char [(vi x1)]) ∈ F) : Con Z EL y9 y9b 6 y9r (rmm 4 2 3 57) [(vr p1), (vr p2), (vi 0), (vi 1), .null] ((p1, true, oString .null (vi 0)) :: F) (fun v D' => (∃ a1 : Addr, Cd .le x1 (255 : Int32) ∧ v = none ∧ (a1, true, ar "[B" .byte [(vi x1.toInt8.toInt32)]) :: (p1, true, oString (vr a1) (vi 0)) :: F = D') ∨ (∃ a2 : Addr, ¬ Cd .le x1 (255 : Int32) ∧ v = none ∧ (a2, true, ar "[B" .byte [(vi x1.toInt8.toInt32), (vi (x1 >>> ((8 : Int32) &&& 31)).toInt8.toInt32)]) :: (p1, true, oString (vr a2) (vi 1)) :: F = D')) := by
  refine Con.of (ls := #[rv p1, rv p2, iv 0, iv 1, .val .null, uu]) (by decide +kernel) rfl ?_
  refine W.aloadN d2_0 rfl rfl ?_
  refine W.initO 0 d2_1 (wq hw 11 rfl) (wq hw 12 rfl) (wq hw 13 rfl) rfl rfl (by decide) ?_
  refine W.iloadN d2_4 rfl ?_
  refine W.ifY 27 d2_5 (y_ne (by decide)) (by decide) ?_
  refine W.gets d2_27 (wq hw 63 rfl) Via.refl hs.1 ?_
  refine W.ifN d2_30 (n_eq (by have := hs.2.1; have := q0; omega)) ?_
  refine W.aloadN d2_33 rfl rfl ?_
  refine W.iloadN d2_34 rfl ?_
  refine W.iloadN d2_35 rfl ?_
  refine W.callS (as := [(vr p2), (vi 0), (vi 1)]) 0 [] d2_36 (wq hw 143 rfl) (wq hw 144 rfl) (wq hw 145 rfl) (wq hw 146 rfl) (c206_compress hw hs (hx1 := hx1) (mp1 := (mS mp2))) (by decide) pd__CII__B rfl rfl rfl rfl (by decide) (fun v D' h => ?_)
  rcases h with ⟨a1, h1, rfl, rfl⟩ | ⟨a2, h2, rfl, rfl⟩
  ·
   have ih1 := t_le h1
   show W _ _ _ _ _ _ _ _ _ _ _ _ 39 _ [(vr a1)]
   refine W.astore (ls' := #[rv p1, rv p2, iv 0, iv 1, .val .null, rv a1]) d2_39 rfl rfl ?_
   refine W.aloadN d2_41 rfl rfl ?_
   refine W.aload 5 d2_42 rfl rfl ?_
   refine W.iloadN d2_44 rfl ?_
   refine W.callS (as := [(vr a1), (vi 1)]) 1 [(vr p1)] d2_45 (wq hw 150 rfl) (wq hw 151 rfl) (wq hw 145 rfl) (wq hw 152 rfl) (c213_coderFromArrayLen hw hs (hvs_p1 := rfl) (mp1 := m0)) (by decide) pd__BI_B rfl rfl rfl rfl (by decide) (fun v D' h => ?_)
   obtain ⟨rfl, rfl⟩ := h
   show W _ _ _ _ _ _ _ _ _ _ _ _ 48 _ [(vi 0), (vr p1)]
   refine W.putf (D' := (a1, true, ar "[B" .byte [(vi x1.toInt8.toInt32)]) :: (p1, true, oString .null (vi 0)) :: F) 1 1 d2_48 (wq hw 21 rfl) Via.refl rfl rfl (Or.inr ⟨(wq hw 17 rfl), rfl, rfl⟩) (wq hw 2 rfl) pfB (nw_byte (by decide)) (ft_byte (by decide)) rfl ?_
   refine W.aloadN d2_51 rfl rfl ?_
   refine W.aload 5 d2_52 rfl rfl ?_
   refine W.putf (D' := (a1, true, ar "[B" .byte [(vi x1.toInt8.toInt32)]) :: (p1, true, oString (vr a1) (vi 0)) :: F) 1 0 d2_54 (wq hw 20 rfl) Via.refl rfl rfl (Or.inr ⟨(wq hw 16 rfl), rfl, rfl⟩) (wq hw 2 rfl) pf_B rfl rfl rfl ?_
   exact W.return_ d2_57 rfl (by decide) (Or.inl ⟨a1, h1, rfl, rfl⟩)
  ·
   have ih2 := f_le h2
   show W _ _ _ _ _ _ _ _ _ _ _ _ 39 _ [(vr a2)]
   refine W.astore (ls' := #[rv p1, rv p2, iv 0, iv 1, .val .null, rv a2]) d2_39 rfl rfl ?_
   refine W.aloadN d2_41 rfl rfl ?_
   refine W.aload 5 d2_42 rfl rfl ?_
   refine W.iloadN d2_44 rfl ?_
   refine W.callS (as := [(vr a2), (vi 1)]) 1 [(vr p1)] d2_45 (wq hw 150 rfl) (wq hw 151 rfl) (wq hw 145 rfl) (wq hw 152 rfl) (c214_coderFromArrayLen hw hs (hvs_p1 := rfl) (mp1 := m0)) (by decide) pd__BI_B rfl rfl rfl rfl (by decide) (fun v D' h => ?_)
   obtain ⟨rfl, rfl⟩ := h
   show W _ _ _ _ _ _ _ _ _ _ _ _ 48 _ [(vi 1), (vr p1)]
   refine W.putf (D' := (a2, true, ar "[B" .byte [(vi x1.toInt8.toInt32), (vi (x1 >>> ((8 : Int32) &&& 31)).toInt8.toInt32)]) :: (p1, true, oString .null (vi 1)) :: F) 1 1 d2_48 (wq hw 21 rfl) Via.refl rfl rfl (Or.inr ⟨(wq hw 17 rfl), rfl, rfl⟩) (wq hw 2 rfl) pfB (nw_byte (by decide)) (ft_byte (by decide)) rfl ?_
   refine W.aloadN d2_51 rfl rfl ?_
   refine W.aload 5 d2_52 rfl rfl ?_
   refine W.putf (D' := (a2, true, ar "[B" .byte [(vi x1.toInt8.toInt32), (vi (x1 >>> ((8 : Int32) &&& 31)).toInt8.toInt32)]) :: (p1, true, oString (vr a2) (vi 1)) :: F) 1 0 d2_54 (wq hw 20 rfl) Via.refl rfl rfl (Or.inr ⟨(wq hw 16 rfl), rfl, rfl⟩) (wq hw 2 rfl) pf_B rfl rfl rfl ?_
   exact W.return_ d2_57 rfl (by decide) (Or.inr ⟨a2, h2, rfl, rfl⟩)
theorem c204_init {Z a0} (hw : HW a0 Z) (hs : SF Z) {p1 p2 : Addr} {x1 : Int32} (hx1 : 0 ≤ x1.toInt ∧ x1.toInt ≤ 65535) {w_p2 : Bool} {ad_p2 : String} {F : List Ent} (mp2 : (p2, w_p2, ar ad_p2 .char [(vi x1)]) ∈ F) : Con Z EL y10 y10b 2 y10r (rmm 5 2 3 74) [(vr p1), (vr p2)] ((p1, true, oString .null (vi 0)) :: F) (fun v D' => (∃ a1 : Addr, Cd .le x1 (255 : Int32) ∧ v = none ∧ (a1, true, ar "[B" .byte [(vi x1.toInt8.toInt32)]) :: (p1, true, oString (vr a1) (vi 0)) :: F = D') ∨ (∃ a2 : Addr, ¬ Cd .le x1 (255 : Int32) ∧ v = none ∧ (a2, true, ar "[B" .byte [(vi x1.toInt8.toInt32), (vi (x1 >>> ((8 : Int32) &&& 31)).toInt8.toInt32)]) :: (p1, true, oString (vr a2) (vi 1)) :: F = D')) := by
  refine Con.of (ls := #[rv p1, rv p2]) (by decide +kernel) rfl ?_
  refine W.aloadN d1_0 rfl rfl ?_
  refine W.aloadN d1_1 rfl rfl ?_
  refine W.iconst (0) d1_2 (by decide) ?_
  refine W.aloadN d1_3 rfl rfl ?_
  refine W.alen (1) d1_4 (mS mp2) rfl ?_
  refine W.aconstNull d1_5 ?_
  refine W.callI (as := [(vr p2), (vi 0), (vi 1), .null]) 0 [] d1_6 rfl (wq hw 7 rfl) (wq hw 8 rfl) (wq hw 3 rfl) (wq hw 10 rfl) (c205_init hw hs (hx1 := hx1) (mp2 := mp2)) (by decide) pd__CIILjava_lang_Void__V rfl rfl rfl rfl (by decide) (fun v D' h => ?_)
  rcases h with ⟨a1, h1, rfl, rfl⟩ | ⟨a2, h2, rfl, rfl⟩
  ·
   have ih1 := t_le h1
   show W _ _ _ _ _ _ _ _ _ _ _ _ 9 _ []
   exact W.return_ d1_9 rfl (by decide) (Or.inl ⟨a1, h1, rfl, rfl⟩)
  ·
   have ih2 := f_le h2
   show W _ _ _ _ _ _ _ _ _ _ _ _ 9 _ []
   exact W.return_ d1_9 rfl (by decide) (Or.inr ⟨a2, h2, rfl, rfl⟩)
theorem c216_length {Z a0} (hw : HW a0 Z) (hs : SF Z) {p1 p2 : Addr} {vs_p2 : List Value} (hvs_p2 : vs_p2.length = 1) {w_p1 : Bool} {w_p2 : Bool} {ad_p2 : String} {F : List Ent} (mp1 : (p1, w_p1, oString (vr p2) (vi 0)) ∈ F) (mp2 : (p2, w_p2, ar ad_p2 .byte vs_p2) ∈ F) : Con Z EL y14 y14b 1 y14r (rmm 1 0 0 13) [(vr p1)] (F) (fun v D' => (v = some (vi 1) ∧ F = D')) := by
  refine Con.of (ls := #[rv p1]) (by decide +kernel) rfl ?_
  refine W.aloadN d7_0 rfl rfl ?_
  refine W.getf d7_1 (wq hw 20 rfl) Via.refl mp1 m0 ?_
  refine W.alen (1) d7_4 mp2 (by rw [hvs_p2]; rfl) ?_
  refine W.aloadN d7_5 rfl rfl ?_
  refine W.callV (as := []) 1 [(vi 1)] d7_6 (wq hw 58 rfl) (wq hw 59 rfl) (wq hw 61 rfl) (wq hw 61 rfl) (wq hw 60 rfl) (wq hw 3 rfl) (wq hw 62 rfl) (Hp.exa mp1) (c20_coder hw hs (mp1 := mp1)) (by decide) pd__B rfl rfl rfl rfl (by decide) (fun v D' h => ?_)
  obtain ⟨rfl, rfl⟩ := h
  show W _ _ _ _ _ _ _ _ _ _ _ _ 9 _ [(vi 0), (vi 1)]
  refine W.ishrK (1 : Int32) d7_9 (by decide) ?_
  exact W.ireturn d7_10 rfl (Or.inl rfl) rfl (by decide) ⟨rfl, rfl⟩
theorem c218_init {Z a0} (hw : HW a0 Z) (hs : SF Z) {p1 : Addr} {f_p1_2 f_p1_3 : Value} {F : List Ent} : Con Z EL y15 y15b 2 y15r (rmm 1 1 1 12) [(vr p1), (vi 1)] ((p1, true, oStringBuilder .null (vi 0) f_p1_2 f_p1_3) :: F) (fun v D' => (∃ a1 : Addr, v = none ∧ (a1, true, ar "[B" .byte [(vi 0)]) :: (p1, true, oStringBuilder (vr a1) (vi 0) f_p1_2 f_p1_3) :: F = D')) := by
  refine Con.of (ls := #[rv p1, iv 1]) (by decide +kernel) rfl ?_
  refine W.aloadN d10_0 rfl rfl ?_
  refine W.initO 0 d10_1 (wq hw 73 rfl) (wq hw 12 rfl) (wq hw 13 rfl) rfl rfl (by decide) ?_
  refine W.gets d10_4 (wq hw 74 rfl) Via.refl hs.1 ?_
  refine W.ifN d10_7 (n_eq (by have := hs.2.1; have := q0; omega)) ?_
  refine W.aloadN d10_10 rfl rfl ?_
  refine W.iloadN d10_11 rfl ?_
  refine W.newarr 1 (ad := "[B") (ty := .byte) d10_12 rfl (wq hw 15 rfl) ix1 rfl (by decide) (by decide) (fun a1 => ?_)
  show W _ _ _ _ _ _ _ _ _ _ _ _ 14 _ [(vr a1), (vr p1)]
  refine W.putf (D' := (a1, true, ar "[B" .byte [(vi 0)]) :: (p1, true, oStringBuilder (vr a1) (vi 0) f_p1_2 f_p1_3) :: F) 1 0 d10_14 (wq hw 75 rfl) Via.refl rfl rfl (Or.inl (wq hw 76 rfl)) (wq hw 51 rfl) pf_B rfl rfl rfl ?_
  refine W.aloadN d10_17 rfl rfl ?_
  refine W.iconst (0) d10_18 (by decide) ?_
  refine W.putf (D' := (a1, true, ar "[B" .byte [(vi 0)]) :: (p1, true, oStringBuilder (vr a1) (vi 0) f_p1_2 f_p1_3) :: F) 1 1 d10_19 (wq hw 77 rfl) Via.refl rfl rfl (Or.inl (wq hw 78 rfl)) (wq hw 51 rfl) pfB (nw_byte (by decide)) (ft_byte (by decide)) rfl ?_
  refine W.goto 38 d10_22 (by decide) ?_
  exact W.return_ d10_38 rfl (by decide) ⟨a1, rfl, rfl⟩
theorem c217_init {Z a0} (hw : HW a0 Z) (hs : SF Z) {p1 : Addr} {f_p1_2 f_p1_3 : Value} {F : List Ent} : Con Z EL y16 y16b 2 y16r (rmm 2 1 1 25) [(vr p1), (vi 1)] ((p1, true, oStringBuilder .null (vi 0) f_p1_2 f_p1_3) :: F) (fun v D' => (∃ a1 : Addr, v = none ∧ (a1, true, ar "[B" .byte [(vi 0)]) :: (p1, true, oStringBuilder (vr a1) (vi 0) f_p1_2 f_p1_3) :: F = D')) := by
  refine Con.of (ls := #[rv p1, iv 1]) (by decide +kernel) rfl ?_
  refine W.aloadN d9_0 rfl rfl ?_
  refine W.iloadN d9_1 rfl ?_
  refine W.callI (as := [(vi 1)]) 0 [] d9_2 rfl (wq hw 67 rfl) (wq hw 68 rfl) (wq hw 71 rfl) (wq hw 72 rfl) (c218_init hw hs) (by decide) pd_I_V rfl rfl rfl rfl (by decide) (fun v D' h => ?_)
  obtain ⟨a1, rfl, rfl⟩ := h
  show W _ _ _ _ _ _ _ _ _ _ _ _ 5 _ []
  exact W.return_ d9_5 rfl (by decide) ⟨a1, rfl, rfl⟩
theorem c221_inflate {Z a0} (hw : HW a0 Z) (hs : SF Z) {p1 p2 : Addr} {x1 : Int32} (hx1 : 0 ≤ x1.toInt ∧ x1.toInt ≤ 255) {ad_p2 : String} {w_p1 : Bool} {ad_p1 : String} {F : List Ent} (mp1 : (p1, w_p1, ar ad_p1 .byte [(vi x1.toInt8.toInt32)]) ∈ F) : Con Z EL y18 y18b 6 y18r (rmm 0 0 0 0) [(vr p1), (vi 0), (vr p2), (vi 0), (vi 1)] ((p2, true, ar ad_p2 .char [(vi 0)]) :: F) (fun v D' => (v = none ∧ (p2, true, ar ad_p2 .char [(vi x1)]) :: F = D')) := by
  refine Con.of (ls := #[rv p1, iv 0, rv p2, iv 0, iv 1, uu]) (by decide +kernel) rfl ?_
  refine W.iconst (0) d14_0 (by decide) ?_
  refine W.istore (ls' := #[rv p1, iv 0, rv p2, iv 0, iv 1, iv 0]) d14_1 rfl ?_
  refine W.iload d14_3 rfl ?_
  refine W.iload d14_5 rfl ?_
  refine W.icmpN d14_7 (n_ge (by decide)) ?_
  refine W.aloadN d14_10 rfl rfl ?_
  refine W.iloadN d14_11 rfl ?_
  refine W.iincK (ls' := #[rv p1, iv 0, rv p2, iv 1, iv 1, iv 0]) (1) (1 : Int32) d14_12 (by decide) rfl (by decide) rfl ?_
  refine W.aloadN d14_15 rfl rfl ?_
  refine W.iloadN d14_16 rfl ?_
  refine W.iincK (ls' := #[rv p1, iv 1, rv p2, iv 1, iv 1, iv 0]) (1) (1 : Int32) d14_17 (by decide) rfl (by decide) rfl ?_
  refine W.baload 0 d14_20 (mS mp1) ix0 rfl ?_
  refine W.sipush (255) d14_21 (by decide) ?_
  refine W.iandK x1 d14_24 (z_b255 hx1) ?_
  refine W.i2cK x1 d14_25 (z_i2c (by omega)) ?_
  refine W.castore (D' := (p2, true, ar ad_p2 .char [(vi x1)]) :: F) 0 0 d14_26 rfl ix0 (Nat.le_of_ble_eq_true rfl) (z_narC (by omega)) rfl ?_
  refine W.iincK (ls' := #[rv p1, iv 1, rv p2, iv 1, iv 1, iv 1]) (1) (1 : Int32) d14_27 (by decide) rfl (by decide) rfl ?_
  refine W.goto 3 d14_30 (by decide) ?_
  refine W.iload d14_3 rfl ?_
  refine W.iload d14_5 rfl ?_
  refine W.icmpY 33 d14_7 (y_ge (by decide)) (by decide) ?_
  exact W.return_ d14_33 rfl (by decide) ⟨rfl, rfl⟩
theorem c220_toChars {Z a0} (hw : HW a0 Z) (hs : SF Z) {p1 : Addr} {x1 : Int32} (hx1 : 0 ≤ x1.toInt ∧ x1.toInt ≤ 255) {w_p1 : Bool} {ad_p1 : String} {F : List Ent} (mp1 : (p1, w_p1, ar ad_p1 .byte [(vi x1.toInt8.toInt32)]) ∈ F) : Con Z EL y19 y19b 2 y19r (rmm 1 1 1 17) [(vr p1)] (F) (fun v D' => (∃ a1 : Addr, v = some (vr a1) ∧ (a1, true, ar "[C" .char [(vi x1)]) :: F = D')) := by
  refine Con.of (ls := #[rv p1, uu]) (by decide +kernel) rfl ?_
  refine W.aloadN d13_0 rfl rfl ?_
  refine W.alen (1) d13_1 mp1 rfl ?_
  refine W.newarr 1 (ad := "[C") (ty := .char) d13_2 rfl (wq hw 0 rfl) ix1 rfl (by decide) (by decide) (fun a1 => ?_)
  show W _ _ _ _ _ _ _ _ _ _ _ _ 4 _ [(vr a1)]
  refine W.astoreN (ls' := #[rv p1, rv a1]) d13_4 rfl rfl ?_
  refine W.aloadN d13_5 rfl rfl ?_
  refine W.iconst (0) d13_6 (by decide) ?_
  refine W.aloadN d13_7 rfl rfl ?_
  refine W.iconst (0) d13_8 (by decide) ?_
  refine W.aloadN d13_9 rfl rfl ?_
  refine W.alen (1) d13_10 (mS mp1) rfl ?_
  refine W.callS (as := [(vr p1), (vi 0), (vr a1), (vi 0), (vi 1)]) 0 [] d13_11 (wq hw 93 rfl) (wq hw 94 rfl) (wq hw 91 rfl) (wq hw 95 rfl) (c221_inflate hw hs (hx1 := hx1) (mp1 := mp1)) (by decide) pd__BI_CII_V rfl rfl rfl rfl (by decide) (fun v D' h => ?_)
  obtain ⟨rfl, rfl⟩ := h
  show W _ _ _ _ _ _ _ _ _ _ _ _ 14 _ []
  refine W.aloadN d13_14 rfl rfl ?_
  exact W.areturn d13_15 rfl rfl rfl (by decide) ⟨a1, rfl, rfl⟩
theorem c219_toCharArray {Z a0} (hw : HW a0 Z) (hs : SF Z) {p1 p2 : Addr} {x1 : Int32} (hx1 : 0 ≤ x1.toInt ∧ x1.toInt ≤ 255) {w_p1 : Bool} {w_p2 : Bool} {ad_p2 : String} {F : List Ent} (mp1 : (p1, w_p1, oString (vr p2) (vi 0)) ∈ F) (mp2 : (p2, w_p2, ar ad_p2 .byte [(vi x1.toInt8.toInt32)]) ∈ F) : Con Z EL y20 y20b 1 y20r (rmm 2 1 1 30) [(vr p1)] (F) (fun v D' => (∃ a1 : Addr, v = some (vr a1) ∧ (a1, true, ar "[C" .char [(vi x1)]) :: F = D')) := by
  refine Con.of (ls := #[rv p1]) (by decide +kernel) rfl ?_
  refine W.aloadN d11_0 rfl rfl ?_
  refine W.callV (as := []) 0 [] d11_1 (wq hw 84 rfl) (wq hw 85 rfl) (wq hw 87 rfl) (wq hw 87 rfl) (wq hw 86 rfl) (wq hw 3 rfl) (wq hw 88 rfl) (Hp.exa mp1) (c24_isLatin1 hw hs (mp1 := mp1)) (by decide) pd__Z rfl rfl rfl rfl (by decide) (fun v D' h => ?_)
  obtain ⟨rfl, rfl⟩ := h
  show W _ _ _ _ _ _ _ _ _ _ _ _ 4 _ [(vi 1)]
  refine W.ifN d11_4 (n_eq (by decide)) ?_
  refine W.aloadN d11_7 rfl rfl ?_
  refine W.getf d11_8 (wq hw 20 rfl) Via.refl mp1 m0 ?_
  refine W.callS (as := [(vr p2)]) 0 [] d11_11 (wq hw 89 rfl) (wq hw 90 rfl) (wq hw 91 rfl) (wq hw 92 rfl) (c220_toChars hw hs (hx1 := hx1) (mp1 := mp2)) (by decide) pd__B__C rfl rfl rfl rfl (by decide) (fun v D' h => ?_)
  obtain ⟨a1, rfl, rfl⟩ := h
  show W _ _ _ _ _ _ _ _ _ _ _ _ 14 _ [(vr a1)]
  refine W.goto 24 d11_14 (by decide) ?_
  exact W.areturn d11_24 rfl rfl rfl (by decide) ⟨a1, rfl, rfl⟩
theorem c224_ensureCapacityInternal {Z a0} (hw : HW a0 Z) (hs : SF Z) {p1 p2 : Addr} {f_p1_2 f_p1_3 : Value} {vs_p2 : List Value} (hvs_p2 : vs_p2.length = 1) {w_p1 : Bool} {w_p2 : Bool} {ad_p2 : String} {F : List Ent} (mp1 : (p1, w_p1, oStringBuilder (vr p2) (vi 0) f_p1_2 f_p1_3) ∈ F) (mp2 : (p2, w_p2, ar ad_p2 .byte vs_p2) ∈ F) : Con Z EL y21 y21b 3 y21r (rmm 0 0 0 0) [(vr p1), (vi 1)] (F) (fun v D' => (v = none ∧ F = D')) := by
  refine Con.of (ls := #[rv p1, iv 1, uu]) (by decide +kernel) rfl ?_
  refine W.aloadN d28_0 rfl rfl ?_
  refine W.getf d28_1 (wq hw 75 rfl) Via.refl mp1 m0 ?_
  refine W.alen (1) d28_4 mp2 (by rw [hvs_p2]; rfl) ?_
  refine W.aloadN d28_5 rfl rfl ?_
  refine W.getf d28_6 (wq hw 77 rfl) Via.refl mp1 m1 ?_
  refine W.ishrK (1 : Int32) d28_9 (by decide) ?_
  refine W.istoreN (ls' := #[rv p1, iv 1, iv 1]) d28_10 rfl ?_
  refine W.iloadN d28_11 rfl ?_
  refine W.iloadN d28_12 rfl ?_
  refine W.isubK (0 : Int32) d28_13 (by decide) ?_
  refine W.ifY 38 d28_14 (y_le (by decide)) (by decide) ?_
  exact W.return_ d28_38 rfl (by decide) ⟨rfl, rfl⟩
theorem c223_append {Z a0} (hw : HW a0 Z) (hs : SF Z) {p1 p2 : Addr} {x1 : Int32} (hx1 : 0 ≤ x1.toInt ∧ x1.toInt ≤ 255) {f_p1_3 : Value} {ad_p2 : String} {F : List Ent} : Con Z EL y24 y24b 2 y24r (rmm 1 0 0 14) [(vr p1), (vi x1)] ((p1, true, oStringBuilder (vr p2) (vi 0) (vi 0) f_p1_3) :: (p2, true, ar ad_p2 .byte [(vi 0)]) :: F) (fun v D' => (v = some (vr p1) ∧ (p1, true, oStringBuilder (vr p2) (vi 0) (vi 1) f_p1_3) :: (p2, true, ar ad_p2 .byte [(vi x1.toInt8.toInt32)]) :: F = D')) := by
  refine Con.of (ls := #[rv p1, iv x1]) (by decide +kernel) rfl ?_
  refine W.aloadN d27_0 rfl rfl ?_
  refine W.aloadN d27_1 rfl rfl ?_
  refine W.getf d27_2 (wq hw 122 rfl) Via.refl m0 m2 ?_
  refine W.iconst (1) d27_5 (by decide) ?_
  refine W.iaddK (1 : Int32) d27_6 (by decide) ?_
  refine W.callP (as := [(vi 1)]) 0 [] d27_7 (wq hw 162 rfl) (wq hw 163 rfl) (wq hw 165 rfl) (wq hw 164 rfl) (wq hw 71 rfl) (wq hw 166 rfl) (Hp.exa m0) (c224_ensureCapacityInternal hw hs (hvs_p2 := rfl) (mp1 := m0) (mp2 := m1)) (by decide) pd_I_V rfl rfl rfl rfl (by decide) (fun v D' h => ?_)
  obtain ⟨rfl, rfl⟩ := h
  show W _ _ _ _ _ _ _ _ _ _ _ _ 10 _ []
  refine W.aloadN d27_10 rfl rfl ?_
  refine W.callV (as := []) 0 [] d27_11 (wq hw 167 rfl) (wq hw 125 rfl) (wq hw 127 rfl) (wq hw 127 rfl) (wq hw 126 rfl) (wq hw 71 rfl) (wq hw 128 rfl) (Hp.exa m0) (c30_isLatin1 hw hs (mp1 := m0)) (by decide) pd__Z rfl rfl rfl rfl (by decide) (fun v D' h => ?_)
  obtain ⟨rfl, rfl⟩ := h
  show W _ _ _ _ _ _ _ _ _ _ _ _ 14 _ [(vi 1)]
  refine W.ifN d27_14 (n_eq (by decide)) ?_
  refine W.iloadN d27_17 rfl ?_
  refine W.callS (as := [(vi x1)]) 0 [] d27_18 (wq hw 168 rfl) (wq hw 169 rfl) (wq hw 91 rfl) (wq hw 170 rfl) (c31_canEncode hw hs (hx1 := hx1)) (by decide) pd_C_Z rfl rfl rfl rfl (by decide) (fun v D' h => ?_)
  obtain ⟨rfl, rfl⟩ := h
  show W _ _ _ _ _ _ _ _ _ _ _ _ 21 _ [(vi 1)]
  refine W.ifN d27_21 (n_eq (by decide)) ?_
  refine W.aloadN d27_24 rfl rfl ?_
  refine W.getf d27_25 (wq hw 75 rfl) Via.refl m0 m0 ?_
  refine W.aloadN d27_28 rfl rfl ?_
  refine W.dup d27_29 rfl ?_
  refine W.getf d27_30 (wq hw 122 rfl) Via.refl m0 m2 ?_
  refine W.dupX1 d27_33 rfl rfl ?_
  refine W.iconst (1) d27_34 (by decide) ?_
  refine W.iaddK (1 : Int32) d27_35 (by decide) ?_
  refine W.putf (D' := (p1, true, oStringBuilder (vr p2) (vi 0) (vi 1) f_p1_3) :: (p2, true, ar ad_p2 .byte [(vi 0)]) :: F) 0 2 d27_36 (wq hw 122 rfl) Via.refl rfl rfl (Or.inl (wq hw 123 rfl)) (wq hw 51 rfl) pfI rfl rfl rfl ?_
  refine W.iloadN d27_39 rfl ?_
  refine W.i2b d27_40 ?_
  refine W.bastore (D' := (p1, true, oStringBuilder (vr p2) (vi 0) (vi 1) f_p1_3) :: (p2, true, ar ad_p2 .byte [(vi x1.toInt8.toInt32)]) :: F) 1 0 d27_41 rfl ix0 (Nat.le_of_ble_eq_true rfl) (z_narB (by have := a_i2b x1; omega)) rfl ?_
  refine W.goto 75 d27_42 (by decide) ?_
  refine W.aloadN d27_75 rfl rfl ?_
  exact W.areturn d27_76 rfl rfl rfl (by decide) ⟨rfl, rfl⟩
theorem c222_append {Z a0} (hw : HW a0 Z) (hs : SF Z) {p1 p2 : Addr} {x1 : Int32} (hx1 : 0 ≤ x1.toInt ∧ x1.toInt ≤ 255) {f_p1_3 : Value} {ad_p2 : String} {F : List Ent} : Con Z EL y25 y25b 2 y25r (rmm 2 0 0 27) [(vr p1), (vi x1)] ((p1, true, oStringBuilder (vr p2) (vi 0) (vi 0) f_p1_3) :: (p2, true, ar ad_p2 .byte [(vi 0)]) :: F) (fun v D' => (v = some (vr p1) ∧ (p1, true, oStringBuilder (vr p2) (vi 0) (vi 1) f_p1_3) :: (p2, true, ar ad_p2 .byte [(vi x1.toInt8.toInt32)]) :: F = D')) := by
  refine Con.of (ls := #[rv p1, iv x1]) (by decide +kernel) rfl ?_
  refine W.aloadN d26_0 rfl rfl ?_
  refine W.iloadN d26_1 rfl ?_
  refine W.callUp (as := [(vi x1)]) 0 [] d26_2 (wq hw 158 rfl) (same_self (by rfl) (by decide) (wq hw 159 rfl) (wq hw 110 rfl) (wq hw 111 rfl)) (wq hw 159 rfl) (wq hw 120 rfl) (by decide) (wq hw 71 rfl) (wq hw 161 rfl) (Hp.ins m0) (c223_append hw hs (hx1 := hx1)) pd_C_Ljava_lang_AbstractStringBuilder_ rfl rfl rfl rfl (by decide) (fun v D' h => ?_)
  obtain ⟨rfl, rfl⟩ := h
  show W _ _ _ _ _ _ _ _ _ _ _ _ 5 _ [(vr p1)]
  refine W.popv d26_5 rfl ?_
  refine W.aloadN d26_6 rfl rfl ?_
  exact W.areturn d26_7 rfl rfl rfl (by decide) ⟨rfl, rfl⟩
theorem c228_copyOfRange {Z a0} (hw : HW a0 Z) (hs : SF Z) {p1 : Addr} {x1 : Int32} (hx1 : 0 ≤ x1.toInt ∧ x1.toInt ≤ 255) {w_p1 : Bool} {F : List Ent} (mp1 : (p1, w_p1, ar "[B" .byte [(vi x1.toInt8.toInt32)]) ∈ F) : Con Z EL y29 y29b 3 y29r (rmm 1 1 1 14) [(vr p1), (vi 0), (vi 1)] (F) (fun v D' => (∃ a1 : Addr, v = some (vr a1) ∧ (a1, true, ar "[B" .byte [(vi x1.toInt8.toInt32)]) :: F = D')) := by
  refine Con.of (ls := #[rv p1, iv 0, iv 1]) (by decide +kernel) rfl ?_
  refine W.iloadN d22_0 rfl ?_
  refine W.ifN d22_1 (n_ne (by decide)) ?_
  refine W.iloadN d22_4 rfl ?_
  refine W.aloadN d22_5 rfl rfl ?_
  refine W.alen (1) d22_6 mp1 rfl ?_
  refine W.icmpY 17 d22_7 (y_eq (by decide)) (by decide) ?_
  refine W.aloadN d22_17 rfl rfl ?_
  refine W.clone 0 1 d22_18 (wq hw 133 rfl) (wq hw 134 rfl) (wq hw 138 rfl) (wq hw 136 rfl) (wq hw 137 rfl) (wq hw 139 rfl) mp1 (by decide) rfl rfl rfl (by decide) (fun a1 => ?_)
  show W _ _ _ _ _ _ _ _ _ _ _ _ 21 _ [(vr a1)]
  refine W.castY d22_21 (wq hw 140 rfl) (Hp.insA m0 (by decide)) ?_
  exact W.areturn d22_24 rfl rfl rfl (by decide) ⟨a1, rfl, rfl⟩
theorem c227_init {Z a0} (hw : HW a0 Z) (hs : SF Z) {p1 p2 p3 : Addr} {x1 : Int32} (hx1 : 0 ≤ x1.toInt ∧ x1.toInt ≤ 255) {f_p2_3 : Value} {w_p2 : Bool} {w_p3 : Bool} {F : List Ent} (mp2 : (p2, w_p2, oStringBuilder (vr p3) (vi 0) (vi 1) f_p2_3) ∈ F) (mp3 : (p3, w_p3, ar "[B" .byte [(vi x1.toInt8.toInt32)]) ∈ F) : Con Z EL y30 y30b 5 y30r (rmm 2 1 1 29) [(vr p1), (vr p2), .null] ((p1, true, oString .null (vi 0)) :: F) (fun v D' => (∃ a1 : Addr, v = none ∧ (a1, true, ar "[B" .byte [(vi x1.toInt8.toInt32)]) :: (p1, true, oString (vr a1) (vi 0)) :: F = D')) := by
  refine Con.of (ls := #[rv p1, rv p2, .val .null, uu, uu]) (by decide +kernel) rfl ?_
  refine W.aloadN d17_0 rfl rfl ?_
  refine W.initO 0 d17_1 (wq hw 11 rfl) (wq hw 12 rfl) (wq hw 13 rfl) rfl rfl (by decide) ?_
  refine W.aloadN d17_4 rfl rfl ?_
  refine W.callV (as := []) 0 [] d17_5 (wq hw 108 rfl) (wq hw 109 rfl) (wq hw 111 rfl) (wq hw 111 rfl) (wq hw 110 rfl) (wq hw 71 rfl) (wq hw 112 rfl) (Hp.exa (mS mp2)) (c41_getValue hw hs (mp1 := (mS mp2))) (by decide) pd___B rfl rfl rfl rfl (by decide) (fun v D' h => ?_)
  obtain ⟨rfl, rfl⟩ := h
  show W _ _ _ _ _ _ _ _ _ _ _ _ 8 _ [(vr p3)]
  refine W.astoreN (ls' := #[rv p1, rv p2, .val .null, rv p3, uu]) d17_8 rfl rfl ?_
  refine W.aloadN d17_9 rfl rfl ?_
  refine W.callVN (as := []) 0 [] d17_10 (wq hw 113 rfl) (wq hw 114 rfl) (by rfl) (wq hw 110 rfl) (wq hw 111 rfl) (wq hw 116 rfl) (wq hw 117 rfl) (wq hw 52 rfl) (wq hw 118 rfl) (Hp.exa (mS mp2)) (c42_length hw hs (mp1 := (mS mp2))) (by decide) pd__I rfl rfl rfl rfl (by decide) (fun v D' h => ?_)
  obtain ⟨rfl, rfl⟩ := h
  show W _ _ _ _ _ _ _ _ _ _ _ _ 13 _ [(vi 1)]
  refine W.istore (ls' := #[rv p1, rv p2, .val .null, rv p3, iv 1]) d17_13 rfl ?_
  refine W.aloadN d17_15 rfl rfl ?_
  refine W.callV (as := []) 0 [] d17_16 (wq hw 124 rfl) (wq hw 125 rfl) (wq hw 127 rfl) (wq hw 127 rfl) (wq hw 126 rfl) (wq hw 71 rfl) (wq hw 128 rfl) (Hp.exa (mS mp2)) (c30_isLatin1 hw hs (mp1 := (mS mp2))) (by decide) pd__Z rfl rfl rfl rfl (by decide) (fun v D' h => ?_)
  obtain ⟨rfl, rfl⟩ := h
  show W _ _ _ _ _ _ _ _ _ _ _ _ 19 _ [(vi 1)]
  refine W.ifN d17_19 (n_eq (by decide)) ?_
  refine W.aloadN d17_22 rfl rfl ?_
  refine W.iconst (0) d17_23 (by decide) ?_
  refine W.putf (D' := (p1, true, oString .null (vi 0)) :: F) 0 1 d17_24 (wq hw 21 rfl) Via.refl rfl rfl (Or.inr ⟨(wq hw 17 rfl), rfl, rfl⟩) (wq hw 2 rfl) pfB (nw_byte (by decide)) (ft_byte (by decide)) rfl ?_
  refine W.aloadN d17_27 rfl rfl ?_
  refine W.aloadN d17_28 rfl rfl ?_
  refine W.iconst (0) d17_29 (by decide) ?_
  refine W.iload d17_30 rfl ?_
  refine W.callS (as := [(vr p3), (vi 0), (vi 1)]) 1 [(vr p1)] d17_32 (wq hw 129 rfl) (wq hw 130 rfl) (wq hw 131 rfl) (wq hw 132 rfl) (c228_copyOfRange hw hs (hx1 := hx1) (mp1 := (mS mp3))) (by decide) pd__BII__B rfl rfl rfl rfl (by decide) (fun v D' h => ?_)
  obtain ⟨a1, rfl, rfl⟩ := h
  show W _ _ _ _ _ _ _ _ _ _ _ _ 35 _ [(vr a1), (vr p1)]
  refine W.putf (D' := (a1, true, ar "[B" .byte [(vi x1.toInt8.toInt32)]) :: (p1, true, oString (vr a1) (vi 0)) :: F) 1 0 d17_35 (wq hw 20 rfl) Via.refl rfl rfl (Or.inr ⟨(wq hw 16 rfl), rfl, rfl⟩) (wq hw 2 rfl) pf_B rfl rfl rfl ?_
  refine W.goto 97 d17_38 (by decide) ?_
  exact W.return_ d17_97 rfl (by decide) ⟨a1, rfl, rfl⟩
theorem c226_init {Z a0} (hw : HW a0 Z) (hs : SF Z) {p1 p2 p3 : Addr} {x1 : Int32} (hx1 : 0 ≤ x1.toInt ∧ x1.toInt ≤ 255) {f_p2_3 : Value} {w_p2 : Bool} {w_p3 : Bool} {F : List Ent} (mp2 : (p2, w_p2, oStringBuilder (vr p3) (vi 0) (vi 1) f_p2_3) ∈ F) (mp3 : (p3, w_p3, ar "[B" .byte [(vi x1.toInt8.toInt32)]) ∈ F) : Con Z EL y31 y31b 2 y31r (rmm 3 1 1 45) [(vr p1), (vr p2)] ((p1, true, oString .null (vi 0)) :: F) (fun v D' => (∃ a1 : Addr, v = none ∧ (a1, true, ar "[B" .byte [(vi x1.toInt8.toInt32)]) :: (p1, true, oString (vr a1) (vi 0)) :: F = D')) := by
  refine Con.of (ls := #[rv p1, rv p2]) (by decide +kernel) rfl ?_
  refine W.aloadN d16_0 rfl rfl ?_
  refine W.aloadN d16_1 rfl rfl ?_
  refine W.aconstNull d16_2 ?_
  refine W.callI (as := [(vr p2), .null]) 0 [] d16_3 rfl (wq hw 105 rfl) (wq hw 106 rfl) (wq hw 3 rfl) (wq hw 107 rfl) (c227_init hw hs (hx1 := hx1) (mp2 := mp2) (mp3 := mp3)) (by decide) pd_Ljava_lang_AbstractStringBuilder_Ljava_lang_Void__V rfl rfl rfl rfl (by decide) (fun v D' h => ?_)
  obtain ⟨a1, rfl, rfl⟩ := h
  show W _ _ _ _ _ _ _ _ _ _ _ _ 6 _ []
  exact W.return_ d16_6 rfl (by decide) ⟨a1, rfl, rfl⟩
theorem c225_toString {Z a0} (hw : HW a0 Z) (hs : SF Z) {p1 p2 : Addr} {x1 : Int32} (hx1 : 0 ≤ x1.toInt ∧ x1.toInt ≤ 255) {f_p1_3 : Value} {w_p1 : Bool} {w_p2 : Bool} {F : List Ent} (mp1 : (p1, w_p1, oStringBuilder (vr p2) (vi 0) (vi 1) f_p1_3) ∈ F) (mp2 : (p2, w_p2, ar "[B" .byte [(vi x1.toInt8.toInt32)]) ∈ F) : Con Z EL y32 y32b 1 y32r (rmm 4 2 5 59) [(vr p1)] (F) (fun v D' => (∃ a1 a2 : Addr, v = some (vr a1) ∧ (a2, true, ar "[B" .byte [(vi x1.toInt8.toInt32)]) :: (a1, true, oString (vr a2) (vi 0)) :: F = D')) := by
  refine Con.of (ls := #[rv p1]) (by decide +kernel) rfl ?_
  refine W.new d15_0 (wq hw 101 rfl) (wq hw 2 rfl) (wq hw 3 rfl) (laString hw) (by decide) (by decide) (fun a1 => ?_)
  show W _ _ _ _ _ _ _ _ _ _ _ _ 3 _ [(vr a1)]
  refine W.dup d15_3 rfl ?_
  refine W.aloadN d15_4 rfl rfl ?_
  refine W.callI (as := [(vr p1)]) 1 [(vr a1)] d15_5 rfl (wq hw 102 rfl) (wq hw 103 rfl) (wq hw 3 rfl) (wq hw 104 rfl) (c226_init hw hs (hx1 := hx1) (mp2 := mp1) (mp3 := mp2)) (by decide) pd_Ljava_lang_StringBuilder__V rfl rfl rfl rfl (by decide) (fun v D' h => ?_)
  obtain ⟨a2, rfl, rfl⟩ := h
  show W _ _ _ _ _ _ _ _ _ _ _ _ 8 _ [(vr a1)]
  exact W.areturn d15_8 rfl rfl rfl (by decide) ⟨a1, a2, rfl, rfl⟩
theorem c215_lowerCase {Z a0} (hw : HW a0 Z) (hs : SF Z) {p1 p2 p3 : Addr} {x2 : Int32} (hx2 : 0 ≤ x2.toInt ∧ x2.toInt ≤ 255) {f_p1_0 f_p1_2 f_p1_3 : Value} {w_p1 : Bool} {w_p2 : Bool} {w_p3 : Bool} {ad_p3 : String} {F : List Ent} (mp1 : (p1, w_p1, oJdqlLexer_Token f_p1_0 (vr p2) f_p1_2 f_p1_3) ∈ F) (mp2 : (p2, w_p2, oString (vr p3) (vi 0)) ∈ F) (mp3 : (p3, w_p3, ar ad_p3 .byte [(vi x2.toInt8.toInt32)]) ∈ F) : Con Z EL y33 y33b 6 y33r (rmm 5 5 11 71) [(vr p1)] (F) (fun v D' => (∃ a6 a7 : Addr, v = some (vr a6) ∧ (a7, true, ar "[B" .byte [(vi (lc x2).toInt8.toInt32)]) :: (a6, true, oString (vr a7) (vi 0)) :: F = D')) := by
  refine Con.of (ls := #[rv p1, uu, uu, uu, uu, uu]) (by decide +kernel) rfl ?_
  refine W.new d6_0 (wq hw 50 rfl) (wq hw 51 rfl) (wq hw 52 rfl) (laStringBuilder hw) (by decide) (by decide) (fun a1 => ?_)
  show W _ _ _ _ _ _ _ _ _ _ _ _ 3 _ [(vr a1)]
  refine W.dup d6_3 rfl ?_
  refine W.aloadN d6_4 rfl rfl ?_
  refine W.getf d6_5 (wq hw 39 rfl) Via.refl (mS mp1) m1 ?_
  refine W.callV (as := []) 2 [(vr a1), (vr a1)] d6_8 (wq hw 53 rfl) (wq hw 54 rfl) (wq hw 56 rfl) (wq hw 56 rfl) (wq hw 55 rfl) (wq hw 3 rfl) (wq hw 57 rfl) (Hp.exa (mS mp2)) (c216_length hw hs (hvs_p2 := rfl) (mp1 := (mS mp2)) (mp2 := (mS mp3))) (by decide) pd__I rfl rfl rfl rfl (by decide) (fun v D' h => ?_)
  obtain ⟨rfl, rfl⟩ := h
  show W _ _ _ _ _ _ _ _ _ _ _ _ 11 _ [(vi 1), (vr a1), (vr a1)]
  refine W.callI (as := [(vi 1)]) 1 [(vr a1)] d6_11 rfl (wq hw 64 rfl) (wq hw 65 rfl) (wq hw 52 rfl) (wq hw 66 rfl) (c217_init hw hs) (by decide) pd_I_V rfl rfl rfl rfl (by decide) (fun v D' h => ?_)
  obtain ⟨a2, rfl, rfl⟩ := h
  show W _ _ _ _ _ _ _ _ _ _ _ _ 14 _ [(vr a1)]
  refine W.astoreN (ls' := #[rv p1, rv a1, uu, uu, uu, uu]) d6_14 rfl rfl ?_
  refine W.aloadN d6_15 rfl rfl ?_
  refine W.getf d6_16 (wq hw 39 rfl) Via.refl (mS (mS mp1)) m1 ?_
  refine W.callV (as := []) 0 [] d6_19 (wq hw 79 rfl) (wq hw 80 rfl) (wq hw 82 rfl) (wq hw 82 rfl) (wq hw 81 rfl) (wq hw 3 rfl) (wq hw 83 rfl) (Hp.exa (mS (mS mp2))) (c219_toCharArray hw hs (hx1 := hx2) (mp1 := (mS (mS mp2))) (mp2 := (mS (mS mp3)))) (by decide) pd___C rfl rfl rfl rfl (by decide) (fun v D' h => ?_)
  obtain ⟨a3, rfl, rfl⟩ := h
  show W _ _ _ _ _ _ _ _ _ _ _ _ 22 _ [(vr a3)]
  refine W.astoreN (ls' := #[rv p1, rv a1, rv a3, uu, uu, uu]) d6_22 rfl rfl ?_
  refine W.aloadN d6_23 rfl rfl ?_
  refine W.alen (1) d6_24 m0 rfl ?_
  refine W.istoreN (ls' := #[rv p1, rv a1, rv a3, iv 1, uu, uu]) d6_25 rfl ?_
  refine W.iconst (0) d6_26 (by decide) ?_
  refine W.istore (ls' := #[rv p1, rv a1, rv a3, iv 1, iv 0, uu]) d6_27 rfl ?_
  refine W.iload d6_29 rfl ?_
  refine W.iloadN d6_31 rfl ?_
  refine W.icmpN d6_32 (n_ge (by decide)) ?_
  refine W.aloadN d6_35 rfl rfl ?_
  refine W.iload d6_36 rfl ?_
  refine W.caload 0 d6_38 m0 ix0 rfl ?_
  refine W.istore (ls' := #[rv p1, rv a1, rv a3, iv 1, iv 0, iv x2]) d6_39 rfl ?_
  refine W.aloadN d6_41 rfl rfl ?_
  have K5 : W Z EL (rmm 5 5 11 71) "com/example/rochester/rochester/JdqlLexer$Token" "lowerCase" prog_12_method_5_code 6 (Option.some (Jvm.ClassFile.FieldType.object "java/lang/String")) (fun v D' => (∃ a6 a7 : Addr, v = some (vr a6) ∧ (a7, true, ar "[B" .byte [(vi (lc x2).toInt8.toInt32)]) :: (a6, true, oString (vr a7) (vi 0)) :: F = D')) ((a3, true, ar "[C" .char [(vi x2)]) :: (a2, true, ar "[B" .byte [(vi 0)]) :: (a1, true, oStringBuilder (vr a2) (vi 0) (vi 0) (vi 0)) :: F) 3 6 70 #[rv p1, rv a1, rv a3, iv 1, iv 0, iv x2] [(vi (lc x2)), (vr a1)] := by
   refine W.front 1 (D' := (a2, true, ar "[B" .byte [(vi 0)]) :: (a3, true, ar "[C" .char [(vi x2)]) :: (a1, true, oStringBuilder (vr a2) (vi 0) (vi 0) (vi 0)) :: F) rfl rfl ?_
   refine W.front 2 (D' := (a1, true, oStringBuilder (vr a2) (vi 0) (vi 0) (vi 0)) :: (a2, true, ar "[B" .byte [(vi 0)]) :: (a3, true, ar "[C" .char [(vi x2)]) :: F) rfl rfl ?_
   refine W.callV (as := [(vi (lc x2))]) 0 [] d6_70 (wq hw 153 rfl) (wq hw 154 rfl) (wq hw 156 rfl) (wq hw 156 rfl) (wq hw 155 rfl) (wq hw 52 rfl) (wq hw 157 rfl) (Hp.exa m0) (c222_append hw hs (hx1 := (by have := a_lc x2; omega))) (by decide) pd_C_Ljava_lang_StringBuilder_ rfl rfl rfl rfl (by decide) (fun v D' h => ?_)
   obtain ⟨rfl, rfl⟩ := h
   show W _ _ _ _ _ _ _ _ _ _ _ _ 73 _ [(vr a1)]
   refine W.popv d6_73 rfl ?_
   refine W.iincK (ls' := #[rv p1, rv a1, rv a3, iv 1, iv 1, iv x2]) (1) (1 : Int32) d6_74 (by decide) rfl (by decide) rfl ?_
   refine W.goto 29 d6_77 (by decide) ?_
   refine W.iload d6_29 rfl ?_
   refine W.iloadN d6_31 rfl ?_
   refine W.icmpY 80 d6_32 (y_ge (by decide)) (by decide) ?_
   refine W.aloadN d6_80 rfl rfl ?_
   refine W.callV (as := []) 0 [] d6_81 (wq hw 96 rfl) (wq hw 97 rfl) (wq hw 99 rfl) (wq hw 99 rfl) (wq hw 98 rfl) (wq hw 52 rfl) (wq hw 100 rfl) (Hp.exa m0) (c225_toString hw hs (hx1 := (by have := a_lc x2; omega)) (mp1 := m0) (mp2 := m1)) (by decide) pd__Ljava_lang_String_ rfl rfl rfl rfl (by decide) (fun v D' h => ?_)
   obtain ⟨a6, a7, rfl, rfl⟩ := h
   show W _ _ _ _ _ _ _ _ _ _ _ _ 84 _ [(vr a6)]
   refine W.dropAt 2 (D' := (a7, true, ar "[B" .byte [(vi (lc x2).toInt8.toInt32)]) :: (a6, true, oString (vr a7) (vi 0)) :: (a2, true, ar "[B" .byte [(vi (lc x2).toInt8.toInt32)]) :: (a3, true, ar "[C" .char [(vi x2)]) :: F) rfl ?_
   refine W.dropAt 2 (D' := (a7, true, ar "[B" .byte [(vi (lc x2).toInt8.toInt32)]) :: (a6, true, oString (vr a7) (vi 0)) :: (a3, true, ar "[C" .char [(vi x2)]) :: F) rfl ?_
   refine W.dropAt 2 (D' := (a7, true, ar "[B" .byte [(vi (lc x2).toInt8.toInt32)]) :: (a6, true, oString (vr a7) (vi 0)) :: F) rfl ?_
   exact W.areturn d6_84 rfl rfl rfl (by decide) ⟨a6, a7, rfl, rfl⟩
  refine W.iload d6_42 rfl ?_
  refine W.bipush (65) d6_44 (by decide) ?_
  refine W.icmp 68 d6_46 (by decide) (fun h1 => ?_) (fun h1 => ?_)
  ·
   have ih1 := t_lt h1
   refine W.iload d6_68 rfl ?_
   refine W.top (y := (lc x2)) (lc_of (by have := q65; omega)) ?_
   exact W.mono (by decide) (by decide) (K5  )
  ·
   have ih1 := f_lt h1
   refine W.iload d6_49 rfl ?_
   refine W.bipush (90) d6_51 (by decide) ?_
   refine W.icmp 68 d6_53 (by decide) (fun h2 => ?_) (fun h2 => ?_)
   ·
    have ih2 := t_gt h2
    refine W.iload d6_68 rfl ?_
    refine W.top (y := (lc x2)) (lc_of (by have := q65; have := q90; omega)) ?_
    exact W.mono (by decide) (by decide) (K5  )
   ·
    have ih2 := f_gt h2
    refine W.iload d6_56 rfl ?_
    refine W.bipush (65) d6_58 (by decide) ?_
    refine W.isub d6_60 ?_
    refine W.bipush (97) d6_61 (by decide) ?_
    refine W.iadd d6_63 ?_
    refine W.i2cK ((x2 - (65 : Int32)) + (97 : Int32)) d6_64 (z_i2c (by have := q65; have := a_sub x2 (65 : Int32); have := q97; have := a_add (x2 - (65 : Int32)) (97 : Int32); have := q90; omega)) ?_
    refine W.goto 70 d6_65 (by decide) ?_
    refine W.top (y := (lc x2)) (lc_of (by have := q65; have := a_sub x2 (65 : Int32); have := q97; have := a_add (x2 - (65 : Int32)) (97 : Int32); have := q90; omega)) ?_
    exact W.mono (by decide) (by decide) (K5  )
theorem c230_charAt {Z a0} (hw : HW a0 Z) (hs : SF Z) {p1 : Addr} {x1 : Int32} (hx1 : 0 ≤ x1.toInt ∧ x1.toInt ≤ 255) {w_p1 : Bool} {ad_p1 : String} {F : List Ent} (mp1 : (p1, w_p1, ar ad_p1 .byte [(vi x1.toInt8.toInt32)]) ∈ F) : Con Z EL y36 y36b 2 y36r (rmm 2 0 0 27) [(vr p1), (vi 0)] (F) (fun v D' => (v = some (vi x1) ∧ F = D')) := by
  refine Con.of (ls := #[rv p1, iv 0]) (by decide +kernel) rfl ?_
  refine W.iloadN d31_0 rfl ?_
  refine W.aloadN d31_1 rfl rfl ?_
  refine W.alen (1) d31_2 mp1 rfl ?_
  refine W.callS (as := [(vi 0), (vi 1)]) 0 [] d31_3 (wq hw 179 rfl) (wq hw 180 rfl) (wq hw 3 rfl) (wq hw 181 rfl) (c47_checkIndex hw hs (hr0 := by have := q0; omega) (hr1 := by have := q0; have := q1; omega)) (by decide) pd_II_V rfl rfl rfl rfl (by decide) (fun v D' h => ?_)
  obtain ⟨rfl, rfl⟩ := h
  show W _ _ _ _ _ _ _ _ _ _ _ _ 6 _ []
  refine W.aloadN d31_6 rfl rfl ?_
  refine W.iloadN d31_7 rfl ?_
  refine W.baload 0 d31_8 mp1 ix0 rfl ?_
  refine W.sipush (255) d31_9 (by decide) ?_
  refine W.iandK x1 d31_12 (z_b255 hx1) ?_
  refine W.i2cK x1 d31_13 (z_i2c (by omega)) ?_
  exact W.ireturn d31_14 rfl (Or.inr (Or.inr (Or.inr (Or.inl rfl)))) (nw_char (by omega)) (by decide) ⟨rfl, rfl⟩
theorem c229_charAt {Z a0} (hw : HW a0 Z) (hs : SF Z) {p1 p2 : Addr} {x1 : Int32} (hx1 : 0 ≤ x1.toInt ∧ x1.toInt ≤ 255) {w_p1 : Bool} {w_p2 : Bool} {ad_p2 : String} {F : List Ent} (mp1 : (p1, w_p1, oString (vr p2) (vi 0)) ∈ F) (mp2 : (p2, w_p2, ar ad_p2 .byte [(vi x1.toInt8.toInt32)]) ∈ F) : Con Z EL y37 y37b 2 y37r (rmm 3 0 0 40) [(vr p1), (vi 0)] (F) (fun v D' => (v = some (vi x1) ∧ F = D')) := by
  refine Con.of (ls := #[rv p1, iv 0]) (by decide +kernel) rfl ?_
  refine W.aloadN d30_0 rfl rfl ?_
  refine W.callV (as := []) 0 [] d30_1 (wq hw 84 rfl) (wq hw 85 rfl) (wq hw 87 rfl) (wq hw 87 rfl) (wq hw 86 rfl) (wq hw 3 rfl) (wq hw 88 rfl) (Hp.exa mp1) (c24_isLatin1 hw hs (mp1 := mp1)) (by decide) pd__Z rfl rfl rfl rfl (by decide) (fun v D' h => ?_)
  obtain ⟨rfl, rfl⟩ := h
  show W _ _ _ _ _ _ _ _ _ _ _ _ 4 _ [(vi 1)]
  refine W.ifN d30_4 (n_eq (by decide)) ?_
  refine W.aloadN d30_7 rfl rfl ?_
  refine W.getf d30_8 (wq hw 20 rfl) Via.refl mp1 m0 ?_
  refine W.iloadN d30_11 rfl ?_
  refine W.callS (as := [(vr p2), (vi 0)]) 0 [] d30_12 (wq hw 176 rfl) (wq hw 177 rfl) (wq hw 91 rfl) (wq hw 178 rfl) (c230_charAt hw hs (hx1 := hx1) (mp1 := mp2)) (by decide) pd__BI_C rfl rfl rfl rfl (by decide) (fun v D' h => ?_)
  obtain ⟨rfl, rfl⟩ := h
  show W _ _ _ _ _ _ _ _ _ _ _ _ 15 _ [(vi x1)]
  exact W.ireturn d30_15 rfl (Or.inr (Or.inr (Or.inr (Or.inl rfl)))) (nw_char (by omega)) (by decide) ⟨rfl, rfl⟩
theorem c232_length {Z a0} (hw : HW a0 Z) (hs : SF Z) {p1 p2 : Addr} {vs_p2 : List Value} (hvs_p2 : vs_p2.length = 2) {w_p1 : Bool} {w_p2 : Bool} {ad_p2 : String} {F : List Ent} (mp1 : (p1, w_p1, oString (vr p2) (vi 1)) ∈ F) (mp2 : (p2, w_p2, ar ad_p2 .byte vs_p2) ∈ F) : Con Z EL y14 y14b 1 y14r (rmm 1 0 0 13) [(vr p1)] (F) (fun v D' => (v = some (vi 1) ∧ F = D')) := by
  refine Con.of (ls := #[rv p1]) (by decide +kernel) rfl ?_
  refine W.aloadN d7_0 rfl rfl ?_
  refine W.getf d7_1 (wq hw 20 rfl) Via.refl mp1 m0 ?_
  refine W.alen (2) d7_4 mp2 (by rw [hvs_p2]; rfl) ?_
  refine W.aloadN d7_5 rfl rfl ?_
  refine W.callV (as := []) 1 [(vi 2)] d7_6 (wq hw 58 rfl) (wq hw 59 rfl) (wq hw 61 rfl) (wq hw 61 rfl) (wq hw 60 rfl) (wq hw 3 rfl) (wq hw 62 rfl) (Hp.exa mp1) (c56_coder hw hs (mp1 := mp1)) (by decide) pd__B rfl rfl rfl rfl (by decide) (fun v D' h => ?_)
  obtain ⟨rfl, rfl⟩ := h
  show W _ _ _ _ _ _ _ _ _ _ _ _ 9 _ [(vi 1), (vi 2)]
  refine W.ishrK (1 : Int32) d7_9 (by decide) ?_
  exact W.ireturn d7_10 rfl (Or.inl rfl) rfl (by decide) ⟨rfl, rfl⟩
theorem c237_length {Z a0} (hw : HW a0 Z) (hs : SF Z) {p1 : Addr} {vs_p1 : List Value} (hvs_p1 : vs_p1.length = 2) {w_p1 : Bool} {ad_p1 : String} {F : List Ent} (mp1 : (p1, w_p1, ar ad_p1 .byte vs_p1) ∈ F) : Con Z EL y39 y39b 1 y39r (rmm 0 0 0 0) [(vr p1)] (F) (fun v D' => (v = some (vi 1) ∧ F = D')) := by
  refine Con.of (ls := #[rv p1]) (by decide +kernel) rfl ?_
  refine W.aloadN d43_0 rfl rfl ?_
  refine W.alen (2) d43_1 mp1 (by rw [hvs_p1]; rfl) ?_
  refine W.iconst (1) d43_2 (by decide) ?_
  refine W.ishrK (1 : Int32) d43_3 (by decide) ?_
  exact W.ireturn d43_4 rfl (Or.inl rfl) rfl (by decide) ⟨rfl, rfl⟩
theorem c239_checkFromIndexSize {Z a0} (hw : HW a0 Z) (hs : SF Z) {F : List Ent} : Con Z EL y40 y40b 4 y40r (rmm 0 0 0 0) [(vi 0), (vi 1), (vi 1), (sfv Z)] (F) (fun v D' => (v = some (vi 0) ∧ F = D')) := by
  refine Con.of (ls := #[iv 0, iv 1, iv 1, .val (sfv Z)]) (by decide +kernel) (hent_of (ld1 rfl (ld1 rfl (ld1 rfl (ld1 (XT.cat1 hs.2.2.1) ld0)))) rfl) ?_
  refine W.iloadN d45_0 rfl ?_
  refine W.iloadN d45_1 rfl ?_
  refine W.iorK (1 : Int32) d45_2 (by decide) ?_
  refine W.iloadN d45_3 rfl ?_
  refine W.iorK (1 : Int32) d45_4 (by decide) ?_
  refine W.ifN d45_5 (n_lt (by decide)) ?_
  refine W.iloadN d45_8 rfl ?_
  refine W.iloadN d45_9 rfl ?_
  refine W.iloadN d45_10 rfl ?_
  refine W.isubK (1 : Int32) d45_11 (by decide) ?_
  refine W.icmpY 23 d45_12 (y_le (by decide)) (by decide) ?_
  refine W.iloadN d45_23 rfl ?_
  exact W.ireturn d45_24 rfl (Or.inl rfl) rfl (by decide) ⟨rfl, rfl⟩
theorem c238_checkBoundsOffCount {Z a0} (hw : HW a0 Z) (hs : SF Z) {F : List Ent} : Con Z EL y41 y41b 3 y41r (rmm 1 0 0 15) [(vi 0), (vi 1), (vi 1)] (F) (fun v D' => (v = some (vi 0) ∧ F = D')) := by
  refine Con.of (ls := #[iv 0, iv 1, iv 1]) (by decide +kernel) rfl ?_
  refine W.iloadN d44_0 rfl ?_
  refine W.iloadN d44_1 rfl ?_
  refine W.iloadN d44_2 rfl ?_
  refine W.gets d44_3 (wq hw 182 rfl) Via.refl hs.2.2.2.1 ?_
  refine W.callS (as := [(vi 0), (vi 1), (vi 1), (sfv Z)]) 0 [] d44_6 (wq hw 225 rfl) (wq hw 226 rfl) (wq hw 183 rfl) (wq hw 227 rfl) (c239_checkFromIndexSize hw hs) (by decide) pd_IIILjava_util_function_BiFunction__I rfl rfl rfl rfl (by decide) (fun v D' h => ?_)
  obtain ⟨rfl, rfl⟩ := h
  show W _ _ _ _ _ _ _ _ _ _ _ _ 9 _ [(vi 0)]
  exact W.ireturn d44_9 rfl (Or.inl rfl) rfl (by decide) ⟨rfl, rfl⟩
theorem c236_checkBoundsOffCount {Z a0} (hw : HW a0 Z) (hs : SF Z) {p1 : Addr} {vs_p1 : List Value} (hvs_p1 : vs_p1.length = 2) {w_p1 : Bool} {ad_p1 : String} {F : List Ent} (mp1 : (p1, w_p1, ar ad_p1 .byte vs_p1) ∈ F) : Con Z EL y42 y42b 3 y42r (rmm 2 0 0 29) [(vi 0), (vi 1), (vr p1)] (F) (fun v D' => (v = none ∧ F = D')) := by
  refine Con.of (ls := #[iv 0, iv 1, rv p1]) (by decide +kernel) rfl ?_
  refine W.iloadN d42_0 rfl ?_
  refine W.iloadN d42_1 rfl ?_
  refine W.aloadN d42_2 rfl rfl ?_
  refine W.callS (as := [(vr p1)]) 2 [(vi 1), (vi 0)] d42_3 (wq hw 219 rfl) (wq hw 220 rfl) (wq hw 145 rfl) (wq hw 221 rfl) (c237_length hw hs (hvs_p1 := hvs_p1) (mp1 := mp1)) (by decide) pd__B_I rfl rfl rfl rfl (by decide) (fun v D' h => ?_)
  obtain ⟨rfl, rfl⟩ := h
  show W _ _ _ _ _ _ _ _ _ _ _ _ 6 _ [(vi 1), (vi 1), (vi 0)]
  refine W.callS (as := [(vi 0), (vi 1), (vi 1)]) 0 [] d42_6 (wq hw 222 rfl) (wq hw 223 rfl) (wq hw 3 rfl) (wq hw 224 rfl) (c238_checkBoundsOffCount hw hs) (by decide) pd_III_I rfl rfl rfl rfl (by decide) (fun v D' h => ?_)
  obtain ⟨rfl, rfl⟩ := h
  show W _ _ _ _ _ _ _ _ _ _ _ _ 9 _ [(vi 0)]
  refine W.popv d42_9 rfl ?_
  exact W.return_ d42_10 rfl (by decide) ⟨rfl, rfl⟩
theorem c235_getChars {Z a0} (hw : HW a0 Z) (hs : SF Z) {p1 p2 : Addr} {x1 : Int32} (hx1 : 0 ≤ x1.toInt ∧ x1.toInt ≤ 65535) {ad_p2 : String} {w_p1 : Bool} {ad_p1 : String} {F : List Ent} (mp1 : (p1, w_p1, ar ad_p1 .byte [(vi x1.toInt8.toInt32), (vi (x1 >>> ((8 : Int32) &&& 31)).toInt8.toInt32)]) ∈ F) : Con Z EL y43 y43b 6 y43r (rmm 3 0 0 43) [(vr p1), (vi 0), (vi 1), (vr p2), (vi 0)] ((p2, true, ar ad_p2 .char [(vi 0)]) :: F) (fun v D' => (v = none ∧ (p2, true, ar ad_p2 .char [(vi x1)]) :: F = D')) := by
  refine Con.of (ls := #[rv p1, iv 0, iv 1, rv p2, iv 0, uu]) (by decide +kernel) rfl ?_
  refine W.iloadN d41_0 rfl ?_
  refine W.iloadN d41_1 rfl ?_
  refine W.icmpN d41_2 (n_ge (by decide)) ?_
  refine W.iloadN d41_5 rfl ?_
  refine W.iloadN d41_6 rfl ?_
  refine W.iloadN d41_7 rfl ?_
  refine W.isubK (1 : Int32) d41_8 (by decide) ?_
  refine W.aloadN d41_9 rfl rfl ?_
  refine W.callS (as := [(vi 0), (vi 1), (vr p1)]) 0 [] d41_10 (wq hw 216 rfl) (wq hw 217 rfl) (wq hw 145 rfl) (wq hw 218 rfl) (c236_checkBoundsOffCount hw hs (hvs_p1 := rfl) (mp1 := (mS mp1))) (by decide) pd_II_B_V rfl rfl rfl rfl (by decide) (fun v D' h => ?_)
  obtain ⟨rfl, rfl⟩ := h
  show W _ _ _ _ _ _ _ _ _ _ _ _ 13 _ []
  refine W.iloadN d41_13 rfl ?_
  refine W.istore (ls' := #[rv p1, iv 0, iv 1, rv p2, iv 0, iv 0]) d41_14 rfl ?_
  refine W.iload d41_16 rfl ?_
  refine W.iloadN d41_18 rfl ?_
  refine W.icmpN d41_19 (n_ge (by decide)) ?_
  refine W.aloadN d41_22 rfl rfl ?_
  refine W.iload d41_23 rfl ?_
  refine W.iincK (ls' := #[rv p1, iv 0, iv 1, rv p2, iv 1, iv 0]) (1) (1 : Int32) d41_25 (by decide) rfl (by decide) rfl ?_
  refine W.aloadN d41_28 rfl rfl ?_
  refine W.iload d41_29 rfl ?_
  refine W.callS (as := [(vr p1), (vi 0)]) 2 [(vi 0), (vr p2)] d41_31 (wq hw 207 rfl) (wq hw 208 rfl) (wq hw 145 rfl) (wq hw 209 rfl) (c212_getChar hw hs (hx1 := hx1) (mp1 := (mS mp1))) (by decide) pd__BI_C rfl rfl rfl rfl (by decide) (fun v D' h => ?_)
  obtain ⟨rfl, rfl⟩ := h
  show W _ _ _ _ _ _ _ _ _ _ _ _ 34 _ [(vi x1), (vi 0), (vr p2)]
  refine W.castore (D' := (p2, true, ar ad_p2 .char [(vi x1)]) :: F) 0 0 d41_34 rfl ix0 (Nat.le_of_ble_eq_true rfl) (z_narC hx1) rfl ?_
  refine W.iincK (ls' := #[rv p1, iv 0, iv 1, rv p2, iv 1, iv 1]) (1) (1 : Int32) d41_35 (by decide) rfl (by decide) rfl ?_
  refine W.goto 16 d41_38 (by decide) ?_
  refine W.iload d41_16 rfl ?_
  refine W.iloadN d41_18 rfl ?_
  refine W.icmpY 41 d41_19 (y_ge (by decide)) (by decide) ?_
  exact W.return_ d41_41 rfl (by decide) ⟨rfl, rfl⟩
theorem c234_toChars {Z a0} (hw : HW a0 Z) (hs : SF Z) {p1 : Addr} {x1 : Int32} (hx1 : 0 ≤ x1.toInt ∧ x1.toInt ≤ 65535) {w_p1 : Bool} {ad_p1 : String} {F : List Ent} (mp1 : (p1, w_p1, ar ad_p1 .byte [(vi x1.toInt8.toInt32), (vi (x1 >>> ((8 : Int32) &&& 31)).toInt8.toInt32)]) ∈ F) : Con Z EL y44 y44b 2 y44r (rmm 4 1 1 60) [(vr p1)] (F) (fun v D' => (∃ a1 : Addr, v = some (vr a1) ∧ (a1, true, ar "[C" .char [(vi x1)]) :: F = D')) := by
  refine Con.of (ls := #[rv p1, uu]) (by decide +kernel) rfl ?_
  refine W.aloadN d40_0 rfl rfl ?_
  refine W.alen (2) d40_1 mp1 rfl ?_
  refine W.iconst (1) d40_2 (by decide) ?_
  refine W.ishrK (1 : Int32) d40_3 (by decide) ?_
  refine W.newarr 1 (ad := "[C") (ty := .char) d40_4 rfl (wq hw 0 rfl) ix1 rfl (by decide) (by decide) (fun a1 => ?_)
  show W _ _ _ _ _ _ _ _ _ _ _ _ 6 _ [(vr a1)]
  refine W.astoreN (ls' := #[rv p1, rv a1]) d40_6 rfl rfl ?_
  refine W.aloadN d40_7 rfl rfl ?_
  refine W.iconst (0) d40_8 (by decide) ?_
  refine W.aloadN d40_9 rfl rfl ?_
  refine W.alen (1) d40_10 m0 rfl ?_
  refine W.aloadN d40_11 rfl rfl ?_
  refine W.iconst (0) d40_12 (by decide) ?_
  refine W.callS (as := [(vr p1), (vi 0), (vi 1), (vr a1), (vi 0)]) 0 [] d40_13 (wq hw 213 rfl) (wq hw 214 rfl) (wq hw 145 rfl) (wq hw 215 rfl) (c235_getChars hw hs (hx1 := hx1) (mp1 := mp1)) (by decide) pd__BII_CI_V rfl rfl rfl rfl (by decide) (fun v D' h => ?_)
  obtain ⟨rfl, rfl⟩ := h
  show W _ _ _ _ _ _ _ _ _ _ _ _ 16 _ []
  refine W.aloadN d40_16 rfl rfl ?_
  exact W.areturn d40_17 rfl rfl rfl (by decide) ⟨a1, rfl, rfl⟩
theorem c233_toCharArray {Z a0} (hw : HW a0 Z) (hs : SF Z) {p1 p2 : Addr} {x1 : Int32} (hx1 : 0 ≤ x1.toInt ∧ x1.toInt ≤ 65535) {w_p1 : Bool} {w_p2 : Bool} {ad_p2 : String} {F : List Ent} (mp1 : (p1, w_p1, oString (vr p2) (vi 1)) ∈ F) (mp2 : (p2, w_p2, ar ad_p2 .byte [(vi x1.toInt8.toInt32), (vi (x1 >>> ((8 : Int32) &&& 31)).toInt8.toInt32)]) ∈ F) : Con Z EL y20 y20b 1 y20r (rmm 5 1 1 73) [(vr p1)] (F) (fun v D' => (∃ a1 : Addr, v = some (vr a1) ∧ (a1, true, ar "[C" .char [(vi x1)]) :: F = D')) := by
  refine Con.of (ls := #[rv p1]) (by decide +kernel) rfl ?_
  refine W.aloadN d11_0 rfl rfl ?_
  refine W.callV (as := []) 0 [] d11_1 (wq hw 84 rfl) (wq hw 85 rfl) (wq hw 87 rfl) (wq hw 87 rfl) (wq hw 86 rfl) (wq hw 3 rfl) (wq hw 88 rfl) (Hp.exa mp1) (c58_isLatin1 hw hs (mp1 := mp1)) (by decide) pd__Z rfl rfl rfl rfl (by decide) (fun v D' h => ?_)
  obtain ⟨rfl, rfl⟩ := h
  show W _ _ _ _ _ _ _ _ _ _ _ _ 4 _ [(vi 0)]
  refine W.ifY 17 d11_4 (y_eq (by decide)) (by decide) ?_
  refine W.aloadN d11_17 rfl rfl ?_
  refine W.getf d11_18 (wq hw 20 rfl) Via.refl mp1 m0 ?_
  refine W.callS (as := [(vr p2)]) 0 [] d11_21 (wq hw 210 rfl) (wq hw 211 rfl) (wq hw 145 rfl) (wq hw 212 rfl) (c234_toChars hw hs (hx1 := hx1) (mp1 := mp2)) (by decide) pd__B__C rfl rfl rfl rfl (by decide) (fun v D' h => ?_)
  obtain ⟨a1, rfl, rfl⟩ := h
  show W _ _ _ _ _ _ _ _ _ _ _ _ 24 _ [(vr a1)]
  exact W.areturn d11_24 rfl rfl rfl (by decide) ⟨a1, rfl, rfl⟩
theorem c247_checkFromIndexSize {Z a0} (hw : HW a0 Z) (hs : SF Z) {F : List Ent} : Con Z EL y40 y40b 4 y40r (rmm 0 0 0 0) [(vi 0), (vi 0), (vi 1), (sfv Z)] (F) (fun v D' => (v = some (vi 0) ∧ F = D')) := by
  refine Con.of (ls := #[iv 0, iv 0, iv 1, .val (sfv Z)]) (by decide +kernel) (hent_of (ld1 rfl (ld1 rfl (ld1 rfl (ld1 (XT.cat1 hs.2.2.1) ld0)))) rfl) ?_
  refine W.iloadN d45_0 rfl ?_
  refine W.iloadN d45_1 rfl ?_
  refine W.iorK (1 : Int32) d45_2 (by decide) ?_
  refine W.iloadN d45_3 rfl ?_
  refine W.iorK (1 : Int32) d45_4 (by decide) ?_
  refine W.ifN d45_5 (n_lt (by decide)) ?_
  refine W.iloadN d45_8 rfl ?_
  refine W.iloadN d45_9 rfl ?_
  refine W.iloadN d45_10 rfl ?_
  refine W.isubK (1 : Int32) d45_11 (by decide) ?_
  refine W.icmpY 23 d45_12 (y_le (by decide)) (by decide) ?_
  refine W.iloadN d45_23 rfl ?_
  exact W.ireturn d45_24 rfl (Or.inl rfl) rfl (by decide) ⟨rfl, rfl⟩
theorem c246_checkBoundsOffCount {Z a0} (hw : HW a0 Z) (hs : SF Z) {F : List Ent} : Con Z EL y41 y41b 3 y41r (rmm 1 0 0 15) [(vi 0), (vi 0), (vi 1)] (F) (fun v D' => (v = some (vi 0) ∧ F = D')) := by
  refine Con.of (ls := #[iv 0, iv 0, iv 1]) (by decide +kernel) rfl ?_
  refine W.iloadN d44_0 rfl ?_
  refine W.iloadN d44_1 rfl ?_
  refine W.iloadN d44_2 rfl ?_
  refine W.gets d44_3 (wq hw 182 rfl) Via.refl hs.2.2.2.1 ?_
  refine W.callS (as := [(vi 0), (vi 0), (vi 1), (sfv Z)]) 0 [] d44_6 (wq hw 225 rfl) (wq hw 226 rfl) (wq hw 183 rfl) (wq hw 227 rfl) (c247_checkFromIndexSize hw hs) (by decide) pd_IIILjava_util_function_BiFunction__I rfl rfl rfl rfl (by decide) (fun v D' h => ?_)
  obtain ⟨rfl, rfl⟩ := h
  show W _ _ _ _ _ _ _ _ _ _ _ _ 9 _ [(vi 0)]
  exact W.ireturn d44_9 rfl (Or.inl rfl) rfl (by decide) ⟨rfl, rfl⟩
theorem c245_checkBoundsOffCount {Z a0} (hw : HW a0 Z) (hs : SF Z) {p1 : Addr} {vs_p1 : List Value} (hvs_p1 : vs_p1.length = 2) {w_p1 : Bool} {ad_p1 : String} {F : List Ent} (mp1 : (p1, w_p1, ar ad_p1 .byte vs_p1) ∈ F) : Con Z EL y42 y42b 3 y42r (rmm 2 0 0 29) [(vi 0), (vi 0), (vr p1)] (F) (fun v D' => (v = none ∧ F = D')) := by
  refine Con.of (ls := #[iv 0, iv 0, rv p1]) (by decide +kernel) rfl ?_
  refine W.iloadN d42_0 rfl ?_
  refine W.iloadN d42_1 rfl ?_
  refine W.aloadN d42_2 rfl rfl ?_
  refine W.callS (as := [(vr p1)]) 2 [(vi 0), (vi 0)] d42_3 (wq hw 219 rfl) (wq hw 220 rfl) (wq hw 145 rfl) (wq hw 221 rfl) (c237_length hw hs (hvs_p1 := hvs_p1) (mp1 := mp1)) (by decide) pd__B_I rfl rfl rfl rfl (by decide) (fun v D' h => ?_)
  obtain ⟨rfl, rfl⟩ := h
  show W _ _ _ _ _ _ _ _ _ _ _ _ 6 _ [(vi 1), (vi 0), (vi 0)]
  refine W.callS (as := [(vi 0), (vi 0), (vi 1)]) 0 [] d42_6 (wq hw 222 rfl) (wq hw 223 rfl) (wq hw 3 rfl) (wq hw 224 rfl) (c246_checkBoundsOffCount hw hs) (by decide) pd_III_I rfl rfl rfl rfl (by decide) (fun v D' h => ?_)
  obtain ⟨rfl, rfl⟩ := h
  show W _ _ _ _ _ _ _ _ _ _ _ _ 9 _ [(vi 0)]
  refine W.popv d42_9 rfl ?_
  exact W.return_ d42_10 rfl (by decide) ⟨rfl, rfl⟩
theorem c244_inflate {Z a0} (hw : HW a0 Z) (hs : SF Z) {p1 p2 : Addr} {vs_p2 : List Value} (hvs_p2 : vs_p2.length = 2) {w_p2 : Bool} {ad_p2 : String} {F : List Ent} (mp2 : (p2, w_p2, ar ad_p2 .byte vs_p2) ∈ F) : Con Z EL y45 y45b 6 y45r (rmm 3 0 0 43) [(vr p1), (vi 0), (vr p2), (vi 0), (vi 0)] (F) (fun v D' => (v = none ∧ F = D')) := by
  refine Con.of (ls := #[rv p1, iv 0, rv p2, iv 0, iv 0, uu]) (by decide +kernel) rfl ?_
  refine W.iloadN d48_0 rfl ?_
  refine W.iload d48_1 rfl ?_
  refine W.aloadN d48_3 rfl rfl ?_
  refine W.callS (as := [(vi 0), (vi 0), (vr p2)]) 0 [] d48_4 (wq hw 216 rfl) (wq hw 217 rfl) (wq hw 145 rfl) (wq hw 218 rfl) (c245_checkBoundsOffCount hw hs (hvs_p1 := hvs_p2) (mp1 := mp2)) (by decide) pd_II_B_V rfl rfl rfl rfl (by decide) (fun v D' h => ?_)
  obtain ⟨rfl, rfl⟩ := h
  show W _ _ _ _ _ _ _ _ _ _ _ _ 7 _ []
  refine W.iconst (0) d48_7 (by decide) ?_
  refine W.istore (ls' := #[rv p1, iv 0, rv p2, iv 0, iv 0, iv 0]) d48_8 rfl ?_
  refine W.iload d48_10 rfl ?_
  refine W.iload d48_12 rfl ?_
  refine W.icmpY 41 d48_14 (y_ge (by decide)) (by decide) ?_
  exact W.return_ d48_41 rfl (by decide) ⟨rfl, rfl⟩
theorem c243_inflate {Z a0} (hw : HW a0 Z) (hs : SF Z) {p1 p2 : Addr} {vs_p2 : List Value} (hvs_p2 : vs_p2.length = 2) {w_p2 : Bool} {ad_p2 : String} {F : List Ent} (mp2 : (p2, w_p2, ar ad_p2 .byte vs_p2) ∈ F) : Con Z EL y46 y46b 5 y46r (rmm 4 0 0 60) [(vr p1), (vi 0), (vr p2), (vi 0), (vi 0)] (F) (fun v D' => (v = none ∧ F = D')) := by
  refine Con.of (ls := #[rv p1, iv 0, rv p2, iv 0, iv 0]) (by decide +kernel) rfl ?_
  refine W.aloadN d47_0 rfl rfl ?_
  refine W.iloadN d47_1 rfl ?_
  refine W.aloadN d47_2 rfl rfl ?_
  refine W.iloadN d47_3 rfl ?_
  refine W.iload d47_4 rfl ?_
  refine W.callS (as := [(vr p1), (vi 0), (vr p2), (vi 0), (vi 0)]) 0 [] d47_6 (wq hw 237 rfl) (wq hw 238 rfl) (wq hw 145 rfl) (wq hw 239 rfl) (c244_inflate hw hs (hvs_p2 := hvs_p2) (mp2 := mp2)) (by decide) pd__BI_BII_V rfl rfl rfl rfl (by decide) (fun v D' h => ?_)
  obtain ⟨rfl, rfl⟩ := h
  show W _ _ _ _ _ _ _ _ _ _ _ _ 9 _ []
  exact W.return_ d47_9 rfl (by decide) ⟨rfl, rfl⟩
theorem c242_inflate {Z a0} (hw : HW a0 Z) (hs : SF Z) {p1 p2 : Addr} {f_p1_3 : Value} {vs_p2 : List Value} (hvs_p2 : vs_p2.length = 1) {w_p2 : Bool} {ad_p2 : String} {F : List Ent} (mp2 : (p2, w_p2, ar ad_p2 .byte vs_p2) ∈ F) : Con Z EL y47 y47b 2 y47r (rmm 5 1 2 76) [(vr p1)] ((p1, true, oStringBuilder (vr p2) (vi 0) (vi 0) f_p1_3) :: F) (fun v D' => (∃ a1 : Addr, v = none ∧ (a1, true, ar "[B" .byte [(vi 0), (vi 0)]) :: (p1, true, oStringBuilder (vr a1) (vi 1) (vi 0) f_p1_3) :: F = D')) := by
  refine Con.of (ls := #[rv p1, uu]) (by decide +kernel) rfl ?_
  refine W.aloadN d46_0 rfl rfl ?_
  refine W.callV (as := []) 0 [] d46_1 (wq hw 167 rfl) (wq hw 125 rfl) (wq hw 127 rfl) (wq hw 127 rfl) (wq hw 126 rfl) (wq hw 71 rfl) (wq hw 128 rfl) (Hp.exa m0) (c30_isLatin1 hw hs (mp1 := m0)) (by decide) pd__Z rfl rfl rfl rfl (by decide) (fun v D' h => ?_)
  obtain ⟨rfl, rfl⟩ := h
  show W _ _ _ _ _ _ _ _ _ _ _ _ 4 _ [(vi 1)]
  refine W.ifY 8 d46_4 (y_ne (by decide)) (by decide) ?_
  refine W.aloadN d46_8 rfl rfl ?_
  refine W.getf d46_9 (wq hw 75 rfl) Via.refl m0 m0 ?_
  refine W.alen (1) d46_12 (mS mp2) (by rw [hvs_p2]; rfl) ?_
  refine W.callS (as := [(vi 1)]) 0 [] d46_13 (wq hw 233 rfl) (wq hw 195 rfl) (wq hw 145 rfl) (wq hw 196 rfl) (c209_newBytesFor hw hs) (by decide) pd_I__B rfl rfl rfl rfl (by decide) (fun v D' h => ?_)
  obtain ⟨a1, rfl, rfl⟩ := h
  show W _ _ _ _ _ _ _ _ _ _ _ _ 16 _ [(vr a1)]
  refine W.astoreN (ls' := #[rv p1, rv a1]) d46_16 rfl rfl ?_
  refine W.aloadN d46_17 rfl rfl ?_
  refine W.getf d46_18 (wq hw 75 rfl) Via.refl m1 m0 ?_
  refine W.iconst (0) d46_21 (by decide) ?_
  refine W.aloadN d46_22 rfl rfl ?_
  refine W.iconst (0) d46_23 (by decide) ?_
  refine W.aloadN d46_24 rfl rfl ?_
  refine W.getf d46_25 (wq hw 122 rfl) Via.refl m1 m2 ?_
  refine W.callS (as := [(vr p2), (vi 0), (vr a1), (vi 0), (vi 0)]) 0 [] d46_28 (wq hw 234 rfl) (wq hw 235 rfl) (wq hw 91 rfl) (wq hw 236 rfl) (c243_inflate hw hs (hvs_p2 := rfl) (mp2 := m0)) (by decide) pd__BI_BII_V rfl rfl rfl rfl (by decide) (fun v D' h => ?_)
  obtain ⟨rfl, rfl⟩ := h
  show W _ _ _ _ _ _ _ _ _ _ _ _ 31 _ []
  refine W.aloadN d46_31 rfl rfl ?_
  refine W.aloadN d46_32 rfl rfl ?_
  refine W.putf (D' := (a1, true, ar "[B" .byte [(vi 0), (vi 0)]) :: (p1, true, oStringBuilder (vr a1) (vi 0) (vi 0) f_p1_3) :: F) 1 0 d46_33 (wq hw 75 rfl) Via.refl rfl rfl (Or.inl (wq hw 76 rfl)) (wq hw 51 rfl) pf_B rfl rfl rfl ?_
  refine W.aloadN d46_36 rfl rfl ?_
  refine W.iconst (1) d46_37 (by decide) ?_
  refine W.putf (D' := (a1, true, ar "[B" .byte [(vi 0), (vi 0)]) :: (p1, true, oStringBuilder (vr a1) (vi 1) (vi 0) f_p1_3) :: F) 1 1 d46_38 (wq hw 77 rfl) Via.refl rfl rfl (Or.inl (wq hw 78 rfl)) (wq hw 51 rfl) pfB (nw_byte (by decide)) (ft_byte (by decide)) rfl ?_
  exact W.return_ d46_41 rfl (by decide) ⟨a1, rfl, rfl⟩
theorem c249_checkIndex {Z a0} (hw : HW a0 Z) (hs : SF Z) {p1 : Addr} {vs_p1 : List Value} (hvs_p1 : vs_p1.length = 2) {w_p1 : Bool} {ad_p1 : String} {F : List Ent} (mp1 : (p1, w_p1, ar ad_p1 .byte vs_p1) ∈ F) : Con Z EL y48 y48b 2 y48r (rmm 2 0 0 27) [(vi 0), (vr p1)] (F) (fun v D' => (v = none ∧ F = D')) := by
  refine Con.of (ls := #[iv 0, rv p1]) (by decide +kernel) rfl ?_
  refine W.iloadN d50_0 rfl ?_
  refine W.aloadN d50_1 rfl rfl ?_
  refine W.callS (as := [(vr p1)]) 1 [(vi 0)] d50_2 (wq hw 219 rfl) (wq hw 220 rfl) (wq hw 145 rfl) (wq hw 221 rfl) (c237_length hw hs (hvs_p1 := hvs_p1) (mp1 := mp1)) (by decide) pd__B_I rfl rfl rfl rfl (by decide) (fun v D' h => ?_)
  obtain ⟨rfl, rfl⟩ := h
  show W _ _ _ _ _ _ _ _ _ _ _ _ 5 _ [(vi 1), (vi 0)]
  refine W.callS (as := [(vi 0), (vi 1)]) 0 [] d50_5 (wq hw 246 rfl) (wq hw 180 rfl) (wq hw 3 rfl) (wq hw 181 rfl) (c47_checkIndex hw hs (hr0 := by have := q0; omega) (hr1 := by have := q0; have := q1; omega)) (by decide) pd_II_V rfl rfl rfl rfl (by decide) (fun v D' h => ?_)
  obtain ⟨rfl, rfl⟩ := h
  show W _ _ _ _ _ _ _ _ _ _ _ _ 8 _ []
  exact W.return_ d50_8 rfl (by decide) ⟨rfl, rfl⟩
theorem c248_putCharSB {Z a0} (hw : HW a0 Z) (hs : SF Z) {p1 : Addr} {x1 : Int32} (hx1 : 0 ≤ x1.toInt ∧ x1.toInt ≤ 65535) {ad_p1 : String} {F : List Ent} : Con Z EL y49 y49b 3 y49r (rmm 3 0 0 40) [(vr p1), (vi 0), (vi x1)] ((p1, true, ar ad_p1 .byte [(vi 0), (vi 0)]) :: F) (fun v D' => (v = none ∧ (p1, true, ar ad_p1 .byte [(vi x1.toInt8.toInt32), (vi (x1 >>> ((8 : Int32) &&& 31)).toInt8.toInt32)]) :: F = D')) := by
  refine Con.of (ls := #[rv p1, iv 0, iv x1]) (by decide +kernel) rfl ?_
  refine W.iloadN d49_0 rfl ?_
  refine W.aloadN d49_1 rfl rfl ?_
  refine W.callS (as := [(vi 0), (vr p1)]) 0 [] d49_2 (wq hw 243 rfl) (wq hw 244 rfl) (wq hw 145 rfl) (wq hw 245 rfl) (c249_checkIndex hw hs (hvs_p1 := rfl) (mp1 := m0)) (by decide) pd_I_B_V rfl rfl rfl rfl (by decide) (fun v D' h => ?_)
  obtain ⟨rfl, rfl⟩ := h
  show W _ _ _ _ _ _ _ _ _ _ _ _ 5 _ []
  refine W.aloadN d49_5 rfl rfl ?_
  refine W.iloadN d49_6 rfl ?_
  refine W.iloadN d49_7 rfl ?_
  refine W.callS (as := [(vr p1), (vi 0), (vi x1)]) 0 [] d49_8 (wq hw 201 rfl) (wq hw 202 rfl) (wq hw 145 rfl) (wq hw 203 rfl) (c211_putChar hw hs (hx1 := hx1)) (by decide) pd__BII_V rfl rfl rfl rfl (by decide) (fun v D' h => ?_)
  obtain ⟨rfl, rfl⟩ := h
  show W _ _ _ _ _ _ _ _ _ _ _ _ 11 _ []
  exact W.return_ d49_11 rfl (by decide) ⟨rfl, rfl⟩
theorem c241_append {Z a0} (hw : HW a0 Z) (hs : SF Z) {p1 p2 : Addr} {x1 : Int32} (hx1 : 256 ≤ x1.toInt ∧ x1.toInt ≤ 65535) {f_p1_3 : Value} {vs_p2 : List Value} (hvs_p2 : vs_p2.length = 1) {w_p2 : Bool} {ad_p2 : String} {F : List Ent} (mp2 : (p2, w_p2, ar ad_p2 .byte vs_p2) ∈ F) : Con Z EL y24 y24b 2 y24r (rmm 6 1 2 89) [(vr p1), (vi x1)] ((p1, true, oStringBuilder (vr p2) (vi 0) (vi 0) f_p1_3) :: F) (fun v D' => (∃ a1 : Addr, v = some (vr p1) ∧ (a1, true, ar "[B" .byte [(vi x1.toInt8.toInt32), (vi (x1 >>> ((8 : Int32) &&& 31)).toInt8.toInt32)]) :: (p1, true, oStringBuilder (vr a1) (vi 1) (vi 1) f_p1_3) :: F = D')) := by
  refine Con.of (ls := #[rv p1, iv x1]) (by decide +kernel) rfl ?_
  refine W.aloadN d27_0 rfl rfl ?_
  refine W.aloadN d27_1 rfl rfl ?_
  refine W.getf d27_2 (wq hw 122 rfl) Via.refl m0 m2 ?_
  refine W.iconst (1) d27_5 (by decide) ?_
  refine W.iaddK (1 : Int32) d27_6 (by decide) ?_
  refine W.callP (as := [(vi 1)]) 0 [] d27_7 (wq hw 162 rfl) (wq hw 163 rfl) (wq hw 165 rfl) (wq hw 164 rfl) (wq hw 71 rfl) (wq hw 166 rfl) (Hp.exa m0) (c224_ensureCapacityInternal hw hs (hvs_p2 := hvs_p2) (mp1 := m0) (mp2 := (mS mp2))) (by decide) pd_I_V rfl rfl rfl rfl (by decide) (fun v D' h => ?_)
  obtain ⟨rfl, rfl⟩ := h
  show W _ _ _ _ _ _ _ _ _ _ _ _ 10 _ []
  refine W.aloadN d27_10 rfl rfl ?_
  refine W.callV (as := []) 0 [] d27_11 (wq hw 167 rfl) (wq hw 125 rfl) (wq hw 127 rfl) (wq hw 127 rfl) (wq hw 126 rfl) (wq hw 71 rfl) (wq hw 128 rfl) (Hp.exa m0) (c30_isLatin1 hw hs (mp1 := m0)) (by decide) pd__Z rfl rfl rfl rfl (by decide) (fun v D' h => ?_)
  obtain ⟨rfl, rfl⟩ := h
  show W _ _ _ _ _ _ _ _ _ _ _ _ 14 _ [(vi 1)]
  refine W.ifN d27_14 (n_eq (by decide)) ?_
  refine W.iloadN d27_17 rfl ?_
  refine W.callS (as := [(vi x1)]) 0 [] d27_18 (wq hw 168 rfl) (wq hw 169 rfl) (wq hw 91 rfl) (wq hw 170 rfl) (c67_canEncode hw hs (hx1 := hx1)) (by decide) pd_C_Z rfl rfl rfl rfl (by decide) (fun v D' h => ?_)
  obtain ⟨rfl, rfl⟩ := h
  show W _ _ _ _ _ _ _ _ _ _ _ _ 21 _ [(vi 0)]
  refine W.ifY 45 d27_21 (y_eq (by decide)) (by decide) ?_
  refine W.aloadN d27_45 rfl rfl ?_
  refine W.callV (as := []) 0 [] d27_46 (wq hw 167 rfl) (wq hw 125 rfl) (wq hw 127 rfl) (wq hw 127 rfl) (wq hw 126 rfl) (wq hw 71 rfl) (wq hw 128 rfl) (Hp.exa m0) (c30_isLatin1 hw hs (mp1 := m0)) (by decide) pd__Z rfl rfl rfl rfl (by decide) (fun v D' h => ?_)
  obtain ⟨rfl, rfl⟩ := h
  show W _ _ _ _ _ _ _ _ _ _ _ _ 49 _ [(vi 1)]
  refine W.ifN d27_49 (n_eq (by decide)) ?_
  refine W.aloadN d27_52 rfl rfl ?_
  refine W.callP (as := []) 0 [] d27_53 (wq hw 228 rfl) (wq hw 229 rfl) (wq hw 231 rfl) (wq hw 230 rfl) (wq hw 71 rfl) (wq hw 232 rfl) (Hp.exa m0) (c242_inflate hw hs (hvs_p2 := hvs_p2) (mp2 := mp2)) (by decide) pd__V rfl rfl rfl rfl (by decide) (fun v D' h => ?_)
  obtain ⟨a1, rfl, rfl⟩ := h
  show W _ _ _ _ _ _ _ _ _ _ _ _ 56 _ []
  refine W.aloadN d27_56 rfl rfl ?_
  refine W.getf d27_57 (wq hw 75 rfl) Via.refl m1 m0 ?_
  refine W.aloadN d27_60 rfl rfl ?_
  refine W.dup d27_61 rfl ?_
  refine W.getf d27_62 (wq hw 122 rfl) Via.refl m1 m2 ?_
  refine W.dupX1 d27_65 rfl rfl ?_
  refine W.iconst (1) d27_66 (by decide) ?_
  refine W.iaddK (1 : Int32) d27_67 (by decide) ?_
  refine W.putf (D' := (a1, true, ar "[B" .byte [(vi 0), (vi 0)]) :: (p1, true, oStringBuilder (vr a1) (vi 1) (vi 1) f_p1_3) :: F) 1 2 d27_68 (wq hw 122 rfl) Via.refl rfl rfl (Or.inl (wq hw 123 rfl)) (wq hw 51 rfl) pfI rfl rfl rfl ?_
  refine W.iloadN d27_71 rfl ?_
  refine W.callS (as := [(vr a1), (vi 0), (vi x1)]) 0 [] d27_72 (wq hw 240 rfl) (wq hw 241 rfl) (wq hw 145 rfl) (wq hw 242 rfl) (c248_putCharSB hw hs (hx1 := (by omega))) (by decide) pd__BII_V rfl rfl rfl rfl (by decide) (fun v D' h => ?_)
  obtain ⟨rfl, rfl⟩ := h
  show W _ _ _ _ _ _ _ _ _ _ _ _ 75 _ []
  refine W.aloadN d27_75 rfl rfl ?_
  exact W.areturn d27_76 rfl rfl rfl (by decide) ⟨a1, rfl, rfl⟩
theorem c240_append {Z a0} (hw : HW a0 Z) (hs : SF Z) {p1 p2 : Addr} {x1 : Int32} (hx1 : 256 ≤ x1.toInt ∧ x1.toInt ≤ 65535) {f_p1_3 : Value} {vs_p2 : List Value} (hvs_p2 : vs_p2.length = 1) {w_p2 : Bool} {ad_p2 : String} {F : List Ent} (mp2 : (p2, w_p2, ar ad_p2 .byte vs_p2) ∈ F) : Con Z EL y25 y25b 2 y25r (rmm 7 1 2 102) [(vr p1), (vi x1)] ((p1, true, oStringBuilder (vr p2) (vi 0) (vi 0) f_p1_3) :: F) (fun v D' => (∃ a1 : Addr, v = some (vr p1) ∧ (a1, true, ar "[B" .byte [(vi x1.toInt8.toInt32), (vi (x1 >>> ((8 : Int32) &&& 31)).toInt8.toInt32)]) :: (p1, true, oStringBuilder (vr a1) (vi 1) (vi 1) f_p1_3) :: F = D')) := by
  refine Con.of (ls := #[rv p1, iv x1]) (by decide +kernel) rfl ?_
  refine W.aloadN d26_0 rfl rfl ?_
  refine W.iloadN d26_1 rfl ?_
  refine W.callUp (as := [(vi x1)]) 0 [] d26_2 (wq hw 158 rfl) (same_self (by rfl) (by decide) (wq hw 159 rfl) (wq hw 110 rfl) (wq hw 111 rfl)) (wq hw 159 rfl) (wq hw 120 rfl) (by decide) (wq hw 71 rfl) (wq hw 161 rfl) (Hp.ins m0) (c241_append hw hs (hx1 := hx1) (hvs_p2 := hvs_p2) (mp2 := mp2)) pd_C_Ljava_lang_AbstractStringBuilder_ rfl rfl rfl rfl (by decide) (fun v D' h => ?_)
  obtain ⟨a1, rfl, rfl⟩ := h
  show W _ _ _ _ _ _ _ _ _ _ _ _ 5 _ [(vr p1)]
  refine W.popv d26_5 rfl ?_
  refine W.aloadN d26_6 rfl rfl ?_
  exact W.areturn d26_7 rfl rfl rfl (by decide) ⟨a1, rfl, rfl⟩
theorem c253_copyOfRange {Z a0} (hw : HW a0 Z) (hs : SF Z) {p1 : Addr} {x1 : Int32} (hx1 : 256 ≤ x1.toInt ∧ x1.toInt ≤ 65535) {w_p1 : Bool} {F : List Ent} (mp1 : (p1, w_p1, ar "[B" .byte [(vi x1.toInt8.toInt32), (vi (x1 >>> ((8 : Int32) &&& 31)).toInt8.toInt32)]) ∈ F) : Con Z EL y29 y29b 3 y29r (rmm 1 1 2 14) [(vr p1), (vi 0), (vi 2)] (F) (fun v D' => (∃ a1 : Addr, v = some (vr a1) ∧ (a1, true, ar "[B" .byte [(vi x1.toInt8.toInt32), (vi (x1 >>> ((8 : Int32) &&& 31)).toInt8.toInt32)]) :: F = D')) := by
  refine Con.of (ls := #[rv p1, iv 0, iv 2]) (by decide +kernel) rfl ?_
  refine W.iloadN d22_0 rfl ?_
  refine W.ifN d22_1 (n_ne (by decide)) ?_
  refine W.iloadN d22_4 rfl ?_
  refine W.aloadN d22_5 rfl rfl ?_
  refine W.alen (2) d22_6 mp1 rfl ?_
  refine W.icmpY 17 d22_7 (y_eq (by decide)) (by decide) ?_
  refine W.aloadN d22_17 rfl rfl ?_
  refine W.clone 0 2 d22_18 (wq hw 133 rfl) (wq hw 134 rfl) (wq hw 138 rfl) (wq hw 136 rfl) (wq hw 137 rfl) (wq hw 139 rfl) mp1 (by decide) rfl rfl rfl (by decide) (fun a1 => ?_)
  show W _ _ _ _ _ _ _ _ _ _ _ _ 21 _ [(vr a1)]
  refine W.castY d22_21 (wq hw 140 rfl) (Hp.insA m0 (by decide)) ?_
  exact W.areturn d22_24 rfl rfl rfl (by decide) ⟨a1, rfl, rfl⟩
theorem c252_init {Z a0} (hw : HW a0 Z) (hs : SF Z) {p1 p2 p3 : Addr} {x1 : Int32} (hx1 : 256 ≤ x1.toInt ∧ x1.toInt ≤ 65535) {w_p2 : Bool} {w_p3 : Bool} {F : List Ent} (mp2 : (p2, w_p2, oStringBuilder (vr p3) (vi 1) (vi 1) (vi 0)) ∈ F) (mp3 : (p3, w_p3, ar "[B" .byte [(vi x1.toInt8.toInt32), (vi (x1 >>> ((8 : Int32) &&& 31)).toInt8.toInt32)]) ∈ F) : Con Z EL y30 y30b 5 y30r (rmm 2 1 2 29) [(vr p1), (vr p2), .null] ((p1, true, oString .null (vi 0)) :: F) (fun v D' => (∃ a1 : Addr, v = none ∧ (a1, true, ar "[B" .byte [(vi x1.toInt8.toInt32), (vi (x1 >>> ((8 : Int32) &&& 31)).toInt8.toInt32)]) :: (p1, true, oString (vr a1) (vi 1)) :: F = D')) := by
  refine Con.of (ls := #[rv p1, rv p2, .val .null, uu, uu]) (by decide +kernel) rfl ?_
  refine W.aloadN d17_0 rfl rfl ?_
  refine W.initO 0 d17_1 (wq hw 11 rfl) (wq hw 12 rfl) (wq hw 13 rfl) rfl rfl (by decide) ?_
  refine W.aloadN d17_4 rfl rfl ?_
  refine W.callV (as := []) 0 [] d17_5 (wq hw 108 rfl) (wq hw 109 rfl) (wq hw 111 rfl) (wq hw 111 rfl) (wq hw 110 rfl) (wq hw 71 rfl) (wq hw 112 rfl) (Hp.exa (mS mp2)) (c41_getValue hw hs (mp1 := (mS mp2))) (by decide) pd___B rfl rfl rfl rfl (by decide) (fun v D' h => ?_)
  obtain ⟨rfl, rfl⟩ := h
  show W _ _ _ _ _ _ _ _ _ _ _ _ 8 _ [(vr p3)]
  refine W.astoreN (ls' := #[rv p1, rv p2, .val .null, rv p3, uu]) d17_8 rfl rfl ?_
  refine W.aloadN d17_9 rfl rfl ?_
  refine W.callVN (as := []) 0 [] d17_10 (wq hw 113 rfl) (wq hw 114 rfl) (by rfl) (wq hw 110 rfl) (wq hw 111 rfl) (wq hw 116 rfl) (wq hw 117 rfl) (wq hw 52 rfl) (wq hw 118 rfl) (Hp.exa (mS mp2)) (c42_length hw hs (mp1 := (mS mp2))) (by decide) pd__I rfl rfl rfl rfl (by decide) (fun v D' h => ?_)
  obtain ⟨rfl, rfl⟩ := h
  show W _ _ _ _ _ _ _ _ _ _ _ _ 13 _ [(vi 1)]
  refine W.istore (ls' := #[rv p1, rv p2, .val .null, rv p3, iv 1]) d17_13 rfl ?_
  refine W.aloadN d17_15 rfl rfl ?_
  refine W.callV (as := []) 0 [] d17_16 (wq hw 124 rfl) (wq hw 125 rfl) (wq hw 127 rfl) (wq hw 127 rfl) (wq hw 126 rfl) (wq hw 71 rfl) (wq hw 128 rfl) (Hp.exa (mS mp2)) (c79_isLatin1 hw hs (mp1 := (mS mp2))) (by decide) pd__Z rfl rfl rfl rfl (by decide) (fun v D' h => ?_)
  obtain ⟨rfl, rfl⟩ := h
  show W _ _ _ _ _ _ _ _ _ _ _ _ 19 _ [(vi 0)]
  refine W.ifY 41 d17_19 (y_eq (by decide)) (by decide) ?_
  refine W.gets d17_41 (wq hw 63 rfl) Via.refl hs.1 ?_
  refine W.ifN d17_44 (n_eq (by have := hs.2.1; have := q0; omega)) ?_
  refine W.aloadN d17_47 rfl rfl ?_
  refine W.getf d17_48 (wq hw 247 rfl) Via.refl (mS mp2) m3 ?_
  refine W.ifY 79 d17_51 (y_eq (by decide)) (by decide) ?_
  refine W.aloadN d17_79 rfl rfl ?_
  refine W.iconst (1) d17_80 (by decide) ?_
  refine W.putf (D' := (p1, true, oString .null (vi 1)) :: F) 0 1 d17_81 (wq hw 21 rfl) Via.refl rfl rfl (Or.inr ⟨(wq hw 17 rfl), rfl, rfl⟩) (wq hw 2 rfl) pfB (nw_byte (by decide)) (ft_byte (by decide)) rfl ?_
  refine W.aloadN d17_84 rfl rfl ?_
  refine W.aloadN d17_85 rfl rfl ?_
  refine W.iconst (0) d17_86 (by decide) ?_
  refine W.iload d17_87 rfl ?_
  refine W.iconst (1) d17_89 (by decide) ?_
  refine W.ishlK (2 : Int32) d17_90 (by decide) ?_
  refine W.callS (as := [(vr p3), (vi 0), (vi 2)]) 1 [(vr p1)] d17_91 (wq hw 129 rfl) (wq hw 130 rfl) (wq hw 131 rfl) (wq hw 132 rfl) (c253_copyOfRange hw hs (hx1 := hx1) (mp1 := (mS mp3))) (by decide) pd__BII__B rfl rfl rfl rfl (by decide) (fun v D' h => ?_)
  obtain ⟨a1, rfl, rfl⟩ := h
  show W _ _ _ _ _ _ _ _ _ _ _ _ 94 _ [(vr a1), (vr p1)]
  refine W.putf (D' := (a1, true, ar "[B" .byte [(vi x1.toInt8.toInt32), (vi (x1 >>> ((8 : Int32) &&& 31)).toInt8.toInt32)]) :: (p1, true, oString (vr a1) (vi 1)) :: F) 1 0 d17_94 (wq hw 20 rfl) Via.refl rfl rfl (Or.inr ⟨(wq hw 16 rfl), rfl, rfl⟩) (wq hw 2 rfl) pf_B rfl rfl rfl ?_
  exact W.return_ d17_97 rfl (by decide) ⟨a1, rfl, rfl⟩
theorem c251_init {Z a0} (hw : HW a0 Z) (hs : SF Z) {p1 p2 p3 : Addr} {x1 : Int32} (hx1 : 256 ≤ x1.toInt ∧ x1.toInt ≤ 65535) {w_p2 : Bool} {w_p3 : Bool} {F : List Ent} (mp2 : (p2, w_p2, oStringBuilder (vr p3) (vi 1) (vi 1) (vi 0)) ∈ F) (mp3 : (p3, w_p3, ar "[B" .byte [(vi x1.toInt8.toInt32), (vi (x1 >>> ((8 : Int32) &&& 31)).toInt8.toInt32)]) ∈ F) : Con Z EL y31 y31b 2 y31r (rmm 3 1 2 45) [(vr p1), (vr p2)] ((p1, true, oString .null (vi 0)) :: F) (fun v D' => (∃ a1 : Addr, v = none ∧ (a1, true, ar "[B" .byte [(vi x1.toInt8.toInt32), (vi (x1 >>> ((8 : Int32) &&& 31)).toInt8.toInt32)]) :: (p1, true, oString (vr a1) (vi 1)) :: F = D')) := by
  refine Con.of (ls := #[rv p1, rv p2]) (by decide +kernel) rfl ?_
  refine W.aloadN d16_0 rfl rfl ?_
  refine W.aloadN d16_1 rfl rfl ?_
  refine W.aconstNull d16_2 ?_
  refine W.callI (as := [(vr p2), .null]) 0 [] d16_3 rfl (wq hw 105 rfl) (wq hw 106 rfl) (wq hw 3 rfl) (wq hw 107 rfl) (c252_init hw hs (hx1 := hx1) (mp2 := mp2) (mp3 := mp3)) (by decide) pd_Ljava_lang_AbstractStringBuilder_Ljava_lang_Void__V rfl rfl rfl rfl (by decide) (fun v D' h => ?_)
  obtain ⟨a1, rfl, rfl⟩ := h
  show W _ _ _ _ _ _ _ _ _ _ _ _ 6 _ []
  exact W.return_ d16_6 rfl (by decide) ⟨a1, rfl, rfl⟩
theorem c250_toString {Z a0} (hw : HW a0 Z) (hs : SF Z) {p1 p2 : Addr} {x1 : Int32} (hx1 : 256 ≤ x1.toInt ∧ x1.toInt ≤ 65535) {w_p1 : Bool} {w_p2 : Bool} {F : List Ent} (mp1 : (p1, w_p1, oStringBuilder (vr p2) (vi 1) (vi 1) (vi 0)) ∈ F) (mp2 : (p2, w_p2, ar "[B" .byte [(vi x1.toInt8.toInt32), (vi (x1 >>> ((8 : Int32) &&& 31)).toInt8.toInt32)]) ∈ F) : Con Z EL y32 y32b 1 y32r (rmm 4 2 6 59) [(vr p1)] (F) (fun v D' => (∃ a1 a2 : Addr, v = some (vr a1) ∧ (a2, true, ar "[B" .byte [(vi x1.toInt8.toInt32), (vi (x1 >>> ((8 : Int32) &&& 31)).toInt8.toInt32)]) :: (a1, true, oString (vr a2) (vi 1)) :: F = D')) := by
  refine Con.of (ls := #[rv p1]) (by decide +kernel) rfl ?_
  refine W.new d15_0 (wq hw 101 rfl) (wq hw 2 rfl) (wq hw 3 rfl) (laString hw) (by decide) (by decide) (fun a1 => ?_)
  show W _ _ _ _ _ _ _ _ _ _ _ _ 3 _ [(vr a1)]
  refine W.dup d15_3 rfl ?_
  refine W.aloadN d15_4 rfl rfl ?_
  refine W.callI (as := [(vr p1)]) 1 [(vr a1)] d15_5 rfl (wq hw 102 rfl) (wq hw 103 rfl) (wq hw 3 rfl) (wq hw 104 rfl) (c251_init hw hs (hx1 := hx1) (mp2 := mp1) (mp3 := mp2)) (by decide) pd_Ljava_lang_StringBuilder__V rfl rfl rfl rfl (by decide) (fun v D' h => ?_)
  obtain ⟨a2, rfl, rfl⟩ := h
  show W _ _ _ _ _ _ _ _ _ _ _ _ 8 _ [(vr a1)]
  exact W.areturn d15_8 rfl rfl rfl (by decide) ⟨a1, a2, rfl, rfl⟩
theorem c231_lowerCase {Z a0} (hw : HW a0 Z) (hs : SF Z) {p1 p2 p3 : Addr} {x2 : Int32} (hx2 : 256 ≤ x2.toInt ∧ x2.toInt ≤ 65535) {f_p1_0 f_p1_2 f_p1_3 : Value} {w_p1 : Bool} {w_p2 : Bool} {w_p3 : Bool} {ad_p3 : String} {F : List Ent} (mp1 : (p1, w_p1, oJdqlLexer_Token f_p1_0 (vr p2) f_p1_2 f_p1_3) ∈ F) (mp2 : (p2, w_p2, oString (vr p3) (vi 1)) ∈ F) (mp3 : (p3, w_p3, ar ad_p3 .byte [(vi x2.toInt8.toInt32), (vi (x2 >>> ((8 : Int32) &&& 31)).toInt8.toInt32)]) ∈ F) : Con Z EL y33 y33b 6 y33r (rmm 8 6 14 115) [(vr p1)] (F) (fun v D' => (∃ a7 a8 : Addr, v = some (vr a7) ∧ (a8, true, ar "[B" .byte [(vi (lc x2).toInt8.toInt32), (vi ((lc x2) >>> ((8 : Int32) &&& 31)).toInt8.toInt32)]) :: (a7, true, oString (vr a8) (vi 1)) :: F = D')) := by
  refine Con.of (ls := #[rv p1, uu, uu, uu, uu, uu]) (by decide +kernel) rfl ?_
  refine W.new d6_0 (wq hw 50 rfl) (wq hw 51 rfl) (wq hw 52 rfl) (laStringBuilder hw) (by decide) (by decide) (fun a1 => ?_)
  show W _ _ _ _ _ _ _ _ _ _ _ _ 3 _ [(vr a1)]
  refine W.dup d6_3 rfl ?_
  refine W.aloadN d6_4 rfl rfl ?_
  refine W.getf d6_5 (wq hw 39 rfl) Via.refl (mS mp1) m1 ?_
  refine W.callV (as := []) 2 [(vr a1), (vr a1)] d6_8 (wq hw 53 rfl) (wq hw 54 rfl) (wq hw 56 rfl) (wq hw 56 rfl) (wq hw 55 rfl) (wq hw 3 rfl) (wq hw 57 rfl) (Hp.exa (mS mp2)) (c232_length hw hs (hvs_p2 := rfl) (mp1 := (mS mp2)) (mp2 := (mS mp3))) (by decide) pd__I rfl rfl rfl rfl (by decide) (fun v D' h => ?_)
  obtain ⟨rfl, rfl⟩ := h
  show W _ _ _ _ _ _ _ _ _ _ _ _ 11 _ [(vi 1), (vr a1), (vr a1)]
  refine W.callI (as := [(vi 1)]) 1 [(vr a1)] d6_11 rfl (wq hw 64 rfl) (wq hw 65 rfl) (wq hw 52 rfl) (wq hw 66 rfl) (c217_init hw hs) (by decide) pd_I_V rfl rfl rfl rfl (by decide) (fun v D' h => ?_)
  obtain ⟨a2, rfl, rfl⟩ := h
  show W _ _ _ _ _ _ _ _ _ _ _ _ 14 _ [(vr a1)]
  refine W.astoreN (ls' := #[rv p1, rv a1, uu, uu, uu, uu]) d6_14 rfl rfl ?_
  refine W.aloadN d6_15 rfl rfl ?_
  refine W.getf d6_16 (wq hw 39 rfl) Via.refl (mS (mS mp1)) m1 ?_
  refine W.callV (as := []) 0 [] d6_19 (wq hw 79 rfl) (wq hw 80 rfl) (wq hw 82 rfl) (wq hw 82 rfl) (wq hw 81 rfl) (wq hw 3 rfl) (wq hw 83 rfl) (Hp.exa (mS (mS mp2))) (c233_toCharArray hw hs (hx1 := (by omega)) (mp1 := (mS (mS mp2))) (mp2 := (mS (mS mp3)))) (by decide) pd___C rfl rfl rfl rfl (by decide) (fun v D' h => ?_)
  obtain ⟨a3, rfl, rfl⟩ := h
  show W _ _ _ _ _ _ _ _ _ _ _ _ 22 _ [(vr a3)]
  refine W.astoreN (ls' := #[rv p1, rv a1, rv a3, uu, uu, uu]) d6_22 rfl rfl ?_
  refine W.aloadN d6_23 rfl rfl ?_
  refine W.alen (1) d6_24 m0 rfl ?_
  refine W.istoreN (ls' := #[rv p1, rv a1, rv a3, iv 1, uu, uu]) d6_25 rfl ?_
  refine W.iconst (0) d6_26 (by decide) ?_
  refine W.istore (ls' := #[rv p1, rv a1, rv a3, iv 1, iv 0, uu]) d6_27 rfl ?_
  refine W.iload d6_29 rfl ?_
  refine W.iloadN d6_31 rfl ?_
  refine W.icmpN d6_32 (n_ge (by decide)) ?_
  refine W.aloadN d6_35 rfl rfl ?_
  refine W.iload d6_36 rfl ?_
  refine W.caload 0 d6_38 m0 ix0 rfl ?_
  refine W.istore (ls' := #[rv p1, rv a1, rv a3, iv 1, iv 0, iv x2]) d6_39 rfl ?_
  refine W.aloadN d6_41 rfl rfl ?_
  have K5 : W Z EL (rmm 8 6 14 115) "com/example/rochester/rochester/JdqlLexer$Token" "lowerCase" prog_12_method_5_code 6 (Option.some (Jvm.ClassFile.FieldType.object "java/lang/String")) (fun v D' => (∃ a7 a8 : Addr, v = some (vr a7) ∧ (a8, true, ar "[B" .byte [(vi (lc x2).toInt8.toInt32), (vi ((lc x2) >>> ((8 : Int32) &&& 31)).toInt8.toInt32)]) :: (a7, true, oString (vr a8) (vi 1)) :: F = D')) ((a3, true, ar "[C" .char [(vi x2)]) :: (a2, true, ar "[B" .byte [(vi 0)]) :: (a1, true, oStringBuilder (vr a2) (vi 0) (vi 0) (vi 0)) :: F) 3 6 70 #[rv p1, rv a1, rv a3, iv 1, iv 0, iv x2] [(vi (lc x2)), (vr a1)] := by
   refine W.front 2 (D' := (a1, true, oStringBuilder (vr a2) (vi 0) (vi 0) (vi 0)) :: (a3, true, ar "[C" .char [(vi x2)]) :: (a2, true, ar "[B" .byte [(vi 0)]) :: F) rfl rfl ?_
   refine W.callV (as := [(vi (lc x2))]) 0 [] d6_70 (wq hw 153 rfl) (wq hw 154 rfl) (wq hw 156 rfl) (wq hw 156 rfl) (wq hw 155 rfl) (wq hw 52 rfl) (wq hw 157 rfl) (Hp.exa m0) (c240_append hw hs (hx1 := (by have := a_lc x2; omega)) (hvs_p2 := rfl) (mp2 := m1)) (by decide) pd_C_Ljava_lang_StringBuilder_ rfl rfl rfl rfl (by decide) (fun v D' h => ?_)
   obtain ⟨a6, rfl, rfl⟩ := h
   show W _ _ _ _ _ _ _ _ _ _ _ _ 73 _ [(vr a1)]
   refine W.popv d6_73 rfl ?_
   refine W.iincK (ls' := #[rv p1, rv a1, rv a3, iv 1, iv 1, iv x2]) (1) (1 : Int32) d6_74 (by decide) rfl (by decide) rfl ?_
   refine W.goto 29 d6_77 (by decide) ?_
   refine W.iload d6_29 rfl ?_
   refine W.iloadN d6_31 rfl ?_
   refine W.icmpY 80 d6_32 (y_ge (by decide)) (by decide) ?_
   refine W.aloadN d6_80 rfl rfl ?_
   refine W.callV (as := []) 0 [] d6_81 (wq hw 96 rfl) (wq hw 97 rfl) (wq hw 99 rfl) (wq hw 99 rfl) (wq hw 98 rfl) (wq hw 52 rfl) (wq hw 100 rfl) (Hp.exa m1) (c250_toString hw hs (hx1 := (by have := a_lc x2; omega)) (mp1 := m1) (mp2 := m0)) (by decide) pd__Ljava_lang_String_ rfl rfl rfl rfl (by decide) (fun v D' h => ?_)
   obtain ⟨a7, a8, rfl, rfl⟩ := h
   show W _ _ _ _ _ _ _ _ _ _ _ _ 84 _ [(vr a7)]
   refine W.dropAt 2 (D' := (a8, true, ar "[B" .byte [(vi (lc x2).toInt8.toInt32), (vi ((lc x2) >>> ((8 : Int32) &&& 31)).toInt8.toInt32)]) :: (a7, true, oString (vr a8) (vi 1)) :: (a1, true, oStringBuilder (vr a6) (vi 1) (vi 1) (vi 0)) :: (a3, true, ar "[C" .char [(vi x2)]) :: (a2, true, ar "[B" .byte [(vi 0)]) :: F) rfl ?_
   refine W.dropAt 2 (D' := (a8, true, ar "[B" .byte [(vi (lc x2).toInt8.toInt32), (vi ((lc x2) >>> ((8 : Int32) &&& 31)).toInt8.toInt32)]) :: (a7, true, oString (vr a8) (vi 1)) :: (a3, true, ar "[C" .char [(vi x2)]) :: (a2, true, ar "[B" .byte [(vi 0)]) :: F) rfl ?_
   refine W.dropAt 2 (D' := (a8, true, ar "[B" .byte [(vi (lc x2).toInt8.toInt32), (vi ((lc x2) >>> ((8 : Int32) &&& 31)).toInt8.toInt32)]) :: (a7, true, oString (vr a8) (vi 1)) :: (a2, true, ar "[B" .byte [(vi 0)]) :: F) rfl ?_
   refine W.dropAt 2 (D' := (a8, true, ar "[B" .byte [(vi (lc x2).toInt8.toInt32), (vi ((lc x2) >>> ((8 : Int32) &&& 31)).toInt8.toInt32)]) :: (a7, true, oString (vr a8) (vi 1)) :: F) rfl ?_
   exact W.areturn d6_84 rfl rfl rfl (by decide) ⟨a7, a8, rfl, rfl⟩
  refine W.iload d6_42 rfl ?_
  refine W.bipush (65) d6_44 (by decide) ?_
  refine W.icmpN d6_46 (n_lt (by have := q65; omega)) ?_
  refine W.iload d6_49 rfl ?_
  refine W.bipush (90) d6_51 (by decide) ?_
  refine W.icmpY 68 d6_53 (y_gt (by have := q90; omega)) (by decide) ?_
  refine W.iload d6_68 rfl ?_
  refine W.top (y := (lc x2)) (lc_of (by omega)) ?_
  exact W.mono (by decide) (by decide) (K5  )
theorem c255_charAt {Z a0} (hw : HW a0 Z) (hs : SF Z) {p1 : Addr} {x1 : Int32} (hx1 : 0 ≤ x1.toInt ∧ x1.toInt ≤ 65535) {w_p1 : Bool} {ad_p1 : String} {F : List Ent} (mp1 : (p1, w_p1, ar ad_p1 .byte [(vi x1.toInt8.toInt32), (vi (x1 >>> ((8 : Int32) &&& 31)).toInt8.toInt32)]) ∈ F) : Con Z EL y50 y50b 2 y50r (rmm 3 0 0 40) [(vr p1), (vi 0)] (F) (fun v D' => (v = some (vi x1) ∧ F = D')) := by
  refine Con.of (ls := #[rv p1, iv 0]) (by decide +kernel) rfl ?_
  refine W.iloadN d51_0 rfl ?_
  refine W.aloadN d51_1 rfl rfl ?_
  refine W.callS (as := [(vi 0), (vr p1)]) 0 [] d51_2 (wq hw 243 rfl) (wq hw 244 rfl) (wq hw 145 rfl) (wq hw 245 rfl) (c249_checkIndex hw hs (hvs_p1 := rfl) (mp1 := mp1)) (by decide) pd_I_B_V rfl rfl rfl rfl (by decide) (fun v D' h => ?_)
  obtain ⟨rfl, rfl⟩ := h
  show W _ _ _ _ _ _ _ _ _ _ _ _ 5 _ []
  refine W.aloadN d51_5 rfl rfl ?_
  refine W.iloadN d51_6 rfl ?_
  refine W.callS (as := [(vr p1), (vi 0)]) 0 [] d51_7 (wq hw 207 rfl) (wq hw 208 rfl) (wq hw 145 rfl) (wq hw 209 rfl) (c212_getChar hw hs (hx1 := hx1) (mp1 := mp1)) (by decide) pd__BI_C rfl rfl rfl rfl (by decide) (fun v D' h => ?_)
  obtain ⟨rfl, rfl⟩ := h
  show W _ _ _ _ _ _ _ _ _ _ _ _ 10 _ [(vi x1)]
  exact W.ireturn d51_10 rfl (Or.inr (Or.inr (Or.inr (Or.inl rfl)))) (nw_char hx1) (by decide) ⟨rfl, rfl⟩
theorem c254_charAt {Z a0} (hw : HW a0 Z) (hs : SF Z) {p1 p2 : Addr} {x1 : Int32} (hx1 : 0 ≤ x1.toInt ∧ x1.toInt ≤ 65535) {w_p1 : Bool} {w_p2 : Bool} {ad_p2 : String} {F : List Ent} (mp1 : (p1, w_p1, oString (vr p2) (vi 1)) ∈ F) (mp2 : (p2, w_p2, ar ad_p2 .byte [(vi x1.toInt8.toInt32), (vi (x1 >>> ((8 : Int32) &&& 31)).toInt8.toInt32)]) ∈ F) : Con Z EL y37 y37b 2 y37r (rmm 4 0 0 53) [(vr p1), (vi 0)] (F) (fun v D' => (v = some (vi x1) ∧ F = D')) := by
  refine Con.of (ls := #[rv p1, iv 0]) (by decide +kernel) rfl ?_
  refine W.aloadN d30_0 rfl rfl ?_
  refine W.callV (as := []) 0 [] d30_1 (wq hw 84 rfl) (wq hw 85 rfl) (wq hw 87 rfl) (wq hw 87 rfl) (wq hw 86 rfl) (wq hw 3 rfl) (wq hw 88 rfl) (Hp.exa mp1) (c58_isLatin1 hw hs (mp1 := mp1)) (by decide) pd__Z rfl rfl rfl rfl (by decide) (fun v D' h => ?_)
  obtain ⟨rfl, rfl⟩ := h
  show W _ _ _ _ _ _ _ _ _ _ _ _ 4 _ [(vi 0)]
  refine W.ifY 16 d30_4 (y_eq (by decide)) (by decide) ?_
  refine W.aloadN d30_16 rfl rfl ?_
  refine W.getf d30_17 (wq hw 20 rfl) Via.refl mp1 m0 ?_
  refine W.iloadN d30_20 rfl ?_
  refine W.callS (as := [(vr p2), (vi 0)]) 0 [] d30_21 (wq hw 249 rfl) (wq hw 250 rfl) (wq hw 145 rfl) (wq hw 251 rfl) (c255_charAt hw hs (hx1 := hx1) (mp1 := mp2)) (by decide) pd__BI_C rfl rfl rfl rfl (by decide) (fun v D' h => ?_)
  obtain ⟨rfl, rfl⟩ := h
  show W _ _ _ _ _ _ _ _ _ _ _ _ 24 _ [(vi x1)]
  exact W.ireturn d30_24 rfl (Or.inr (Or.inr (Or.inr (Or.inl rfl)))) (nw_char hx1) (by decide) ⟨rfl, rfl⟩
theorem d2_8 : decode jdk_42_method_149_code 8 = .ok (.aload_n 0, 1) := by decide +kernel
theorem d2_9 : decode jdk_42_method_149_code 9 = .ok (.ldc 7, 2) := by decide +kernel
theorem tx_ : (∀ c ∈ ("" : String).toList, c.toNat < 256) ∧ ("" : String).toList.map (fun c => Value.int (Jvm.Lit.byteI c.toNat.toUInt16)) = [] := by decide
theorem wS {Z a0} (hw : HW a0 Z) : ∀ a ∈ Bundle.stringAtoms, a.before a0 Z = true := wS_of (wq hw 3 rfl) (wq hw 2 rfl) (wq hw 15 rfl) (wq hw 16 rfl) (wq hw 17 rfl) (wq hw 18 rfl) (wq hw 19 rfl)
theorem d2_11 : decode jdk_42_method_149_code 11 = .ok (.getfield 9, 3) := by decide +kernel
theorem d2_14 : decode jdk_42_method_149_code 14 = .ok (.putfield 9, 3) := by decide +kernel
theorem d2_17 : decode jdk_42_method_149_code 17 = .ok (.aload_n 0, 1) := by decide +kernel
theorem d2_18 : decode jdk_42_method_149_code 18 = .ok (.ldc 7, 2) := by decide +kernel
theorem d2_20 : decode jdk_42_method_149_code 20 = .ok (.getfield 15, 3) := by decide +kernel
theorem d2_23 : decode jdk_42_method_149_code 23 = .ok (.putfield 15, 3) := by decide +kernel
theorem d2_26 : decode jdk_42_method_149_code 26 = .ok (.return_, 1) := by decide +kernel
theorem c257_init {Z a0} (hw : HW a0 Z) (hs : SF Z) {p1 p2 : Addr} {F : List Ent} : Con Z EL y9 y9b 6 y9r (rmm 1 4 8 12) [(vr p1), (vr p2), (vi 0), (vi 0), .null] ((p1, true, oString .null (vi 0)) :: F) (fun v D' => (∃ a2 : Addr, v = none ∧ (a2, false, ar "" .byte []) :: (p1, true, oString (vr a2) (vi 0)) :: F = D')) := by
  refine Con.of (ls := #[rv p1, rv p2, iv 0, iv 0, .val .null, uu]) (by decide +kernel) rfl ?_
  refine W.aloadN d2_0 rfl rfl ?_
  refine W.initO 0 d2_1 (wq hw 11 rfl) (wq hw 12 rfl) (wq hw 13 rfl) rfl rfl (by decide) ?_
  refine W.iloadN d2_4 rfl ?_
  refine W.ifN d2_5 (n_ne (by decide)) ?_
  refine W.aloadN d2_8 rfl rfl ?_
  refine W.ldcT 0 (vs := []) rfl d2_9 (wq hw 14 rfl) (wS hw) m0 tx_ (by decide) (by decide) (by decide) (fun a1 a2 => ?_)
  show W _ _ _ _ _ _ _ _ _ _ _ _ 11 _ [(vr a1), (vr p1)]
  refine W.getf d2_11 (wq hw 20 rfl) Via.refl m0 m0 ?_
  refine W.putf (D' := (a1, false, oString (vr a2) (vi 0)) :: (a2, false, ar "" .byte []) :: (p1, true, oString (vr a2) (vi 0)) :: F) 2 0 d2_14 (wq hw 20 rfl) Via.refl rfl rfl (Or.inr ⟨(wq hw 16 rfl), rfl, rfl⟩) (wq hw 2 rfl) pf_B rfl rfl rfl ?_
  refine W.aloadN d2_17 rfl rfl ?_
  refine W.ldcT 0 (vs := []) rfl d2_18 (wq hw 14 rfl) (wS hw) m0 tx_ (by decide) (by decide) (by decide) (fun a3 a4 => ?_)
  show W _ _ _ _ _ _ _ _ _ _ _ _ 20 _ [(vr a3), (vr p1)]
  refine W.getf d2_20 (wq hw 21 rfl) Via.refl m0 m1 ?_
  refine W.putf (D' := (a3, false, oString (vr a4) (vi 0)) :: (a4, false, ar "" .byte []) :: (a1, false, oString (vr a2) (vi 0)) :: (a2, false, ar "" .byte []) :: (p1, true, oString (vr a2) (vi 0)) :: F) 4 1 d2_23 (wq hw 21 rfl) Via.refl rfl rfl (Or.inr ⟨(wq hw 17 rfl), rfl, rfl⟩) (wq hw 2 rfl) pfB (nw_byte (by decide)) (ft_byte (by decide)) rfl ?_
  refine W.dropAt 0 (D' := (a4, false, ar "" .byte []) :: (a1, false, oString (vr a2) (vi 0)) :: (a2, false, ar "" .byte []) :: (p1, true, oString (vr a2) (vi 0)) :: F) rfl ?_
  refine W.dropAt 0 (D' := (a1, false, oString (vr a2) (vi 0)) :: (a2, false, ar "" .byte []) :: (p1, true, oString (vr a2) (vi 0)) :: F) rfl ?_
  refine W.dropAt 0 (D' := (a2, false, ar "" .byte []) :: (p1, true, oString (vr a2) (vi 0)) :: F) rfl ?_
  exact W.return_ d2_26 rfl (by decide) ⟨a2, rfl, rfl⟩
theorem c256_init {Z a0} (hw : HW a0 Z) (hs : SF Z) {p1 p2 : Addr} {w_p2 : Bool} {ad_p2 : String} {F : List Ent} (mp2 : (p2, w_p2, ar ad_p2 .char []) ∈ F) : Con Z EL y10 y10b 2 y10r (rmm 2 4 8 29) [(vr p1), (vr p2)] ((p1, true, oString .null (vi 0)) :: F) (fun v D' => (∃ a1 : Addr, v = none ∧ (a1, false, ar "" .byte []) :: (p1, true, oString (vr a1) (vi 0)) :: F = D')) := by
  refine Con.of (ls := #[rv p1, rv p2]) (by decide +kernel) rfl ?_
  refine W.aloadN d1_0 rfl rfl ?_
  refine W.aloadN d1_1 rfl rfl ?_
  refine W.iconst (0) d1_2 (by decide) ?_
  refine W.aloadN d1_3 rfl rfl ?_
  refine W.alen (0) d1_4 (mS mp2) rfl ?_
  refine W.aconstNull d1_5 ?_
  refine W.callI (as := [(vr p2), (vi 0), (vi 0), .null]) 0 [] d1_6 rfl (wq hw 7 rfl) (wq hw 8 rfl) (wq hw 3 rfl) (wq hw 10 rfl) (c257_init hw hs) (by decide) pd__CIILjava_lang_Void__V rfl rfl rfl rfl (by decide) (fun v D' h => ?_)
  obtain ⟨a1, rfl, rfl⟩ := h
  show W _ _ _ _ _ _ _ _ _ _ _ _ 9 _ []
  exact W.return_ d1_9 rfl (by decide) ⟨a1, rfl, rfl⟩
theorem c259_length {Z a0} (hw : HW a0 Z) (hs : SF Z) {p1 p2 : Addr} {w_p1 : Bool} {w_p2 : Bool} {ad_p2 : String} {F : List Ent} (mp1 : (p1, w_p1, oString (vr p2) (vi 0)) ∈ F) (mp2 : (p2, w_p2, ar ad_p2 .byte []) ∈ F) : Con Z EL y14 y14b 1 y14r (rmm 1 0 0 13) [(vr p1)] (F) (fun v D' => (v = some (vi 0) ∧ F = D')) := by
  refine Con.of (ls := #[rv p1]) (by decide +kernel) rfl ?_
  refine W.aloadN d7_0 rfl rfl ?_
  refine W.getf d7_1 (wq hw 20 rfl) Via.refl mp1 m0 ?_
  refine W.alen (0) d7_4 mp2 rfl ?_
  refine W.aloadN d7_5 rfl rfl ?_
  refine W.callV (as := []) 1 [(vi 0)] d7_6 (wq hw 58 rfl) (wq hw 59 rfl) (wq hw 61 rfl) (wq hw 61 rfl) (wq hw 60 rfl) (wq hw 3 rfl) (wq hw 62 rfl) (Hp.exa mp1) (c20_coder hw hs (mp1 := mp1)) (by decide) pd__B rfl rfl rfl rfl (by decide) (fun v D' h => ?_)
  obtain ⟨rfl, rfl⟩ := h
  show W _ _ _ _ _ _ _ _ _ _ _ _ 9 _ [(vi 0), (vi 0)]
  refine W.ishrK (0 : Int32) d7_9 (by decide) ?_
  exact W.ireturn d7_10 rfl (Or.inl rfl) rfl (by decide) ⟨rfl, rfl⟩
theorem c261_init {Z a0} (hw : HW a0 Z) (hs : SF Z) {p1 : Addr} {f_p1_2 f_p1_3 : Value} {F : List Ent} : Con Z EL y15 y15b 2 y15r (rmm 1 1 0 12) [(vr p1), (vi 0)] ((p1, true, oStringBuilder .null (vi 0) f_p1_2 f_p1_3) :: F) (fun v D' => (∃ a1 : Addr, v = none ∧ (a1, true, ar "[B" .byte []) :: (p1, true, oStringBuilder (vr a1) (vi 0) f_p1_2 f_p1_3) :: F = D')) := by
  refine Con.of (ls := #[rv p1, iv 0]) (by decide +kernel) rfl ?_
  refine W.aloadN d10_0 rfl rfl ?_
  refine W.initO 0 d10_1 (wq hw 73 rfl) (wq hw 12 rfl) (wq hw 13 rfl) rfl rfl (by decide) ?_
  refine W.gets d10_4 (wq hw 74 rfl) Via.refl hs.1 ?_
  refine W.ifN d10_7 (n_eq (by have := hs.2.1; have := q0; omega)) ?_
  refine W.aloadN d10_10 rfl rfl ?_
  refine W.iloadN d10_11 rfl ?_
  refine W.newarr 0 (ad := "[B") (ty := .byte) d10_12 rfl (wq hw 15 rfl) ix0 rfl (by decide) (by decide) (fun a1 => ?_)
  show W _ _ _ _ _ _ _ _ _ _ _ _ 14 _ [(vr a1), (vr p1)]
  refine W.putf (D' := (a1, true, ar "[B" .byte []) :: (p1, true, oStringBuilder (vr a1) (vi 0) f_p1_2 f_p1_3) :: F) 1 0 d10_14 (wq hw 75 rfl) Via.refl rfl rfl (Or.inl (wq hw 76 rfl)) (wq hw 51 rfl) pf_B rfl rfl rfl ?_
  refine W.aloadN d10_17 rfl rfl ?_
  refine W.iconst (0) d10_18 (by decide) ?_
  refine W.putf (D' := (a1, true, ar "[B" .byte []) :: (p1, true, oStringBuilder (vr a1) (vi 0) f_p1_2 f_p1_3) :: F) 1 1 d10_19 (wq hw 77 rfl) Via.refl rfl rfl (Or.inl (wq hw 78 rfl)) (wq hw 51 rfl) pfB (nw_byte (by decide)) (ft_byte (by decide)) rfl ?_
  refine W.goto 38 d10_22 (by decide) ?_
  exact W.return_ d10_38 rfl (by decide) ⟨a1, rfl, rfl⟩
theorem c260_init {Z a0} (hw : HW a0 Z) (hs : SF Z) {p1 : Addr} {f_p1_2 f_p1_3 : Value} {F : List Ent} : Con Z EL y16 y16b 2 y16r (rmm 2 1 0 25) [(vr p1), (vi 0)] ((p1, true, oStringBuilder .null (vi 0) f_p1_2 f_p1_3) :: F) (fun v D' => (∃ a1 : Addr, v = none ∧ (a1, true, ar "[B" .byte []) :: (p1, true, oStringBuilder (vr a1) (vi 0) f_p1_2 f_p1_3) :: F = D')) := by
  refine Con.of (ls := #[rv p1, iv 0]) (by decide +kernel) rfl ?_
  refine W.aloadN d9_0 rfl rfl ?_
  refine W.iloadN d9_1 rfl ?_
  refine W.callI (as := [(vi 0)]) 0 [] d9_2 rfl (wq hw 67 rfl) (wq hw 68 rfl) (wq hw 71 rfl) (wq hw 72 rfl) (c261_init hw hs) (by decide) pd_I_V rfl rfl rfl rfl (by decide) (fun v D' h => ?_)
  obtain ⟨a1, rfl, rfl⟩ := h
  show W _ _ _ _ _ _ _ _ _ _ _ _ 5 _ []
  exact W.return_ d9_5 rfl (by decide) ⟨a1, rfl, rfl⟩
theorem c264_inflate {Z a0} (hw : HW a0 Z) (hs : SF Z) {p1 p2 : Addr} {F : List Ent} : Con Z EL y18 y18b 6 y18r (rmm 0 0 0 0) [(vr p1), (vi 0), (vr p2), (vi 0), (vi 0)] (F) (fun v D' => (v = none ∧ F = D')) := by
  refine Con.of (ls := #[rv p1, iv 0, rv p2, iv 0, iv 0, uu]) (by decide +kernel) rfl ?_
  refine W.iconst (0) d14_0 (by decide) ?_
  refine W.istore (ls' := #[rv p1, iv 0, rv p2, iv 0, iv 0, iv 0]) d14_1 rfl ?_
  refine W.iload d14_3 rfl ?_
  refine W.iload d14_5 rfl ?_
  refine W.icmpY 33 d14_7 (y_ge (by decide)) (by decide) ?_
  exact W.return_ d14_33 rfl (by decide) ⟨rfl, rfl⟩
theorem c263_toChars {Z a0} (hw : HW a0 Z) (hs : SF Z) {p1 : Addr} {w_p1 : Bool} {ad_p1 : String} {F : List Ent} (mp1 : (p1, w_p1, ar ad_p1 .byte []) ∈ F) : Con Z EL y19 y19b 2 y19r (rmm 1 1 0 17) [(vr p1)] (F) (fun v D' => (∃ a1 : Addr, v = some (vr a1) ∧ (a1, true, ar "[C" .char []) :: F = D')) := by
  refine Con.of (ls := #[rv p1, uu]) (by decide +kernel) rfl ?_
  refine W.aloadN d13_0 rfl rfl ?_
  refine W.alen (0) d13_1 mp1 rfl ?_
  refine W.newarr 0 (ad := "[C") (ty := .char) d13_2 rfl (wq hw 0 rfl) ix0 rfl (by decide) (by decide) (fun a1 => ?_)
  show W _ _ _ _ _ _ _ _ _ _ _ _ 4 _ [(vr a1)]
  refine W.astoreN (ls' := #[rv p1, rv a1]) d13_4 rfl rfl ?_
  refine W.aloadN d13_5 rfl rfl ?_
  refine W.iconst (0) d13_6 (by decide) ?_
  refine W.aloadN d13_7 rfl rfl ?_
  refine W.iconst (0) d13_8 (by decide) ?_
  refine W.aloadN d13_9 rfl rfl ?_
  refine W.alen (0) d13_10 (mS mp1) rfl ?_
  refine W.callS (as := [(vr p1), (vi 0), (vr a1), (vi 0), (vi 0)]) 0 [] d13_11 (wq hw 93 rfl) (wq hw 94 rfl) (wq hw 91 rfl) (wq hw 95 rfl) (c264_inflate hw hs) (by decide) pd__BI_CII_V rfl rfl rfl rfl (by decide) (fun v D' h => ?_)
  obtain ⟨rfl, rfl⟩ := h
  show W _ _ _ _ _ _ _ _ _ _ _ _ 14 _ []
  refine W.aloadN d13_14 rfl rfl ?_
  exact W.areturn d13_15 rfl rfl rfl (by decide) ⟨a1, rfl, rfl⟩
theorem c262_toCharArray {Z a0} (hw : HW a0 Z) (hs : SF Z) {p1 p2 : Addr} {w_p1 : Bool} {w_p2 : Bool} {ad_p2 : String} {F : List Ent} (mp1 : (p1, w_p1, oString (vr p2) (vi 0)) ∈ F) (mp2 : (p2, w_p2, ar ad_p2 .byte []) ∈ F) : Con Z EL y20 y20b 1 y20r (rmm 2 1 0 30) [(vr p1)] (F) (fun v D' => (∃ a1 : Addr, v = some (vr a1) ∧ (a1, true, ar "[C" .char []) :: F = D')) := by
  refine Con.of (ls := #[rv p1]) (by decide +kernel) rfl ?_
  refine W.aloadN d11_0 rfl rfl ?_
  refine W.callV (as := []) 0 [] d11_1 (wq hw 84 rfl) (wq hw 85 rfl) (wq hw 87 rfl) (wq hw 87 rfl) (wq hw 86 rfl) (wq hw 3 rfl) (wq hw 88 rfl) (Hp.exa mp1) (c24_isLatin1 hw hs (mp1 := mp1)) (by decide) pd__Z rfl rfl rfl rfl (by decide) (fun v D' h => ?_)
  obtain ⟨rfl, rfl⟩ := h
  show W _ _ _ _ _ _ _ _ _ _ _ _ 4 _ [(vi 1)]
  refine W.ifN d11_4 (n_eq (by decide)) ?_
  refine W.aloadN d11_7 rfl rfl ?_
  refine W.getf d11_8 (wq hw 20 rfl) Via.refl mp1 m0 ?_
  refine W.callS (as := [(vr p2)]) 0 [] d11_11 (wq hw 89 rfl) (wq hw 90 rfl) (wq hw 91 rfl) (wq hw 92 rfl) (c263_toChars hw hs (mp1 := mp2)) (by decide) pd__B__C rfl rfl rfl rfl (by decide) (fun v D' h => ?_)
  obtain ⟨a1, rfl, rfl⟩ := h
  show W _ _ _ _ _ _ _ _ _ _ _ _ 14 _ [(vr a1)]
  refine W.goto 24 d11_14 (by decide) ?_
  exact W.areturn d11_24 rfl rfl rfl (by decide) ⟨a1, rfl, rfl⟩
theorem c268_copyOfRange {Z a0} (hw : HW a0 Z) (hs : SF Z) {p1 : Addr} {w_p1 : Bool} {F : List Ent} (mp1 : (p1, w_p1, ar "[B" .byte []) ∈ F) : Con Z EL y29 y29b 3 y29r (rmm 1 1 0 14) [(vr p1), (vi 0), (vi 0)] (F) (fun v D' => (∃ a1 : Addr, v = some (vr a1) ∧ (a1, true, ar "[B" .byte []) :: F = D')) := by
  refine Con.of (ls := #[rv p1, iv 0, iv 0]) (by decide +kernel) rfl ?_
  refine W.iloadN d22_0 rfl ?_
  refine W.ifN d22_1 (n_ne (by decide)) ?_
  refine W.iloadN d22_4 rfl ?_
  refine W.aloadN d22_5 rfl rfl ?_
  refine W.alen (0) d22_6 mp1 rfl ?_
  refine W.icmpY 17 d22_7 (y_eq (by decide)) (by decide) ?_
  refine W.aloadN d22_17 rfl rfl ?_
  refine W.clone 0 0 d22_18 (wq hw 133 rfl) (wq hw 134 rfl) (wq hw 138 rfl) (wq hw 136 rfl) (wq hw 137 rfl) (wq hw 139 rfl) mp1 (by decide) rfl rfl rfl (by decide) (fun a1 => ?_)
  show W _ _ _ _ _ _ _ _ _ _ _ _ 21 _ [(vr a1)]
  refine W.castY d22_21 (wq hw 140 rfl) (Hp.insA m0 (by decide)) ?_
  exact W.areturn d22_24 rfl rfl rfl (by decide) ⟨a1, rfl, rfl⟩
theorem c267_init {Z a0} (hw : HW a0 Z) (hs : SF Z) {p1 p2 p3 : Addr} {f_p2_3 : Value} {w_p2 : Bool} {w_p3 : Bool} {F : List Ent} (mp2 : (p2, w_p2, oStringBuilder (vr p3) (vi 0) (vi 0) f_p2_3) ∈ F) (mp3 : (p3, w_p3, ar "[B" .byte []) ∈ F) : Con Z EL y30 y30b 5 y30r (rmm 2 1 0 29) [(vr p1), (vr p2), .null] ((p1, true, oString .null (vi 0)) :: F) (fun v D' => (∃ a1 : Addr, v = none ∧ (a1, true, ar "[B" .byte []) :: (p1, true, oString (vr a1) (vi 0)) :: F = D')) := by
  refine Con.of (ls := #[rv p1, rv p2, .val .null, uu, uu]) (by decide +kernel) rfl ?_
  refine W.aloadN d17_0 rfl rfl ?_
  refine W.initO 0 d17_1 (wq hw 11 rfl) (wq hw 12 rfl) (wq hw 13 rfl) rfl rfl (by decide) ?_
  refine W.aloadN d17_4 rfl rfl ?_
  refine W.callV (as := []) 0 [] d17_5 (wq hw 108 rfl) (wq hw 109 rfl) (wq hw 111 rfl) (wq hw 111 rfl) (wq hw 110 rfl) (wq hw 71 rfl) (wq hw 112 rfl) (Hp.exa (mS mp2)) (c41_getValue hw hs (mp1 := (mS mp2))) (by decide) pd___B rfl rfl rfl rfl (by decide) (fun v D' h => ?_)
  obtain ⟨rfl, rfl⟩ := h
  show W _ _ _ _ _ _ _ _ _ _ _ _ 8 _ [(vr p3)]
  refine W.astoreN (ls' := #[rv p1, rv p2, .val .null, rv p3, uu]) d17_8 rfl rfl ?_
  refine W.aloadN d17_9 rfl rfl ?_
  refine W.callVN (as := []) 0 [] d17_10 (wq hw 113 rfl) (wq hw 114 rfl) (by rfl) (wq hw 110 rfl) (wq hw 111 rfl) (wq hw 116 rfl) (wq hw 117 rfl) (wq hw 52 rfl) (wq hw 118 rfl) (Hp.exa (mS mp2)) (c42_length hw hs (mp1 := (mS mp2))) (by decide) pd__I rfl rfl rfl rfl (by decide) (fun v D' h => ?_)
  obtain ⟨rfl, rfl⟩ := h
  show W _ _ _ _ _ _ _ _ _ _ _ _ 13 _ [(vi 0)]
  refine W.istore (ls' := #[rv p1, rv p2, .val .null, rv p3, iv 0]) d17_13 rfl ?_
  refine W.aloadN d17_15 rfl rfl ?_
  refine W.callV (as := []) 0 [] d17_16 (wq hw 124 rfl) (wq hw 125 rfl) (wq hw 127 rfl) (wq hw 127 rfl) (wq hw 126 rfl) (wq hw 71 rfl) (wq hw 128 rfl) (Hp.exa (mS mp2)) (c30_isLatin1 hw hs (mp1 := (mS mp2))) (by decide) pd__Z rfl rfl rfl rfl (by decide) (fun v D' h => ?_)
  obtain ⟨rfl, rfl⟩ := h
  show W _ _ _ _ _ _ _ _ _ _ _ _ 19 _ [(vi 1)]
  refine W.ifN d17_19 (n_eq (by decide)) ?_
  refine W.aloadN d17_22 rfl rfl ?_
  refine W.iconst (0) d17_23 (by decide) ?_
  refine W.putf (D' := (p1, true, oString .null (vi 0)) :: F) 0 1 d17_24 (wq hw 21 rfl) Via.refl rfl rfl (Or.inr ⟨(wq hw 17 rfl), rfl, rfl⟩) (wq hw 2 rfl) pfB (nw_byte (by decide)) (ft_byte (by decide)) rfl ?_
  refine W.aloadN d17_27 rfl rfl ?_
  refine W.aloadN d17_28 rfl rfl ?_
  refine W.iconst (0) d17_29 (by decide) ?_
  refine W.iload d17_30 rfl ?_
  refine W.callS (as := [(vr p3), (vi 0), (vi 0)]) 1 [(vr p1)] d17_32 (wq hw 129 rfl) (wq hw 130 rfl) (wq hw 131 rfl) (wq hw 132 rfl) (c268_copyOfRange hw hs (mp1 := (mS mp3))) (by decide) pd__BII__B rfl rfl rfl rfl (by decide) (fun v D' h => ?_)
  obtain ⟨a1, rfl, rfl⟩ := h
  show W _ _ _ _ _ _ _ _ _ _ _ _ 35 _ [(vr a1), (vr p1)]
  refine W.putf (D' := (a1, true, ar "[B" .byte []) :: (p1, true, oString (vr a1) (vi 0)) :: F) 1 0 d17_35 (wq hw 20 rfl) Via.refl rfl rfl (Or.inr ⟨(wq hw 16 rfl), rfl, rfl⟩) (wq hw 2 rfl) pf_B rfl rfl rfl ?_
  refine W.goto 97 d17_38 (by decide) ?_
  exact W.return_ d17_97 rfl (by decide) ⟨a1, rfl, rfl⟩
theorem c266_init {Z a0} (hw : HW a0 Z) (hs : SF Z) {p1 p2 p3 : Addr} {f_p2_3 : Value} {w_p2 : Bool} {w_p3 : Bool} {F : List Ent} (mp2 : (p2, w_p2, oStringBuilder (vr p3) (vi 0) (vi 0) f_p2_3) ∈ F) (mp3 : (p3, w_p3, ar "[B" .byte []) ∈ F) : Con Z EL y31 y31b 2 y31r (rmm 3 1 0 45) [(vr p1), (vr p2)] ((p1, true, oString .null (vi 0)) :: F) (fun v D' => (∃ a1 : Addr, v = none ∧ (a1, true, ar "[B" .byte []) :: (p1, true, oString (vr a1) (vi 0)) :: F = D')) := by
  refine Con.of (ls := #[rv p1, rv p2]) (by decide +kernel) rfl ?_
  refine W.aloadN d16_0 rfl rfl ?_
  refine W.aloadN d16_1 rfl rfl ?_
  refine W.aconstNull d16_2 ?_
  refine W.callI (as := [(vr p2), .null]) 0 [] d16_3 rfl (wq hw 105 rfl) (wq hw 106 rfl) (wq hw 3 rfl) (wq hw 107 rfl) (c267_init hw hs (mp2 := mp2) (mp3 := mp3)) (by decide) pd_Ljava_lang_AbstractStringBuilder_Ljava_lang_Void__V rfl rfl rfl rfl (by decide) (fun v D' h => ?_)
  obtain ⟨a1, rfl, rfl⟩ := h
  show W _ _ _ _ _ _ _ _ _ _ _ _ 6 _ []
  exact W.return_ d16_6 rfl (by decide) ⟨a1, rfl, rfl⟩
theorem c265_toString {Z a0} (hw : HW a0 Z) (hs : SF Z) {p1 p2 : Addr} {f_p1_3 : Value} {w_p1 : Bool} {w_p2 : Bool} {F : List Ent} (mp1 : (p1, w_p1, oStringBuilder (vr p2) (vi 0) (vi 0) f_p1_3) ∈ F) (mp2 : (p2, w_p2, ar "[B" .byte []) ∈ F) : Con Z EL y32 y32b 1 y32r (rmm 4 2 4 59) [(vr p1)] (F) (fun v D' => (∃ a1 a2 : Addr, v = some (vr a1) ∧ (a2, true, ar "[B" .byte []) :: (a1, true, oString (vr a2) (vi 0)) :: F = D')) := by
  refine Con.of (ls := #[rv p1]) (by decide +kernel) rfl ?_
  refine W.new d15_0 (wq hw 101 rfl) (wq hw 2 rfl) (wq hw 3 rfl) (laString hw) (by decide) (by decide) (fun a1 => ?_)
  show W _ _ _ _ _ _ _ _ _ _ _ _ 3 _ [(vr a1)]
  refine W.dup d15_3 rfl ?_
  refine W.aloadN d15_4 rfl rfl ?_
  refine W.callI (as := [(vr p1)]) 1 [(vr a1)] d15_5 rfl (wq hw 102 rfl) (wq hw 103 rfl) (wq hw 3 rfl) (wq hw 104 rfl) (c266_init hw hs (mp2 := mp1) (mp3 := mp2)) (by decide) pd_Ljava_lang_StringBuilder__V rfl rfl rfl rfl (by decide) (fun v D' h => ?_)
  obtain ⟨a2, rfl, rfl⟩ := h
  show W _ _ _ _ _ _ _ _ _ _ _ _ 8 _ [(vr a1)]
  exact W.areturn d15_8 rfl rfl rfl (by decide) ⟨a1, a2, rfl, rfl⟩
theorem c258_lowerCase {Z a0} (hw : HW a0 Z) (hs : SF Z) {p1 p2 p3 : Addr} {f_p1_0 f_p1_2 f_p1_3 : Value} {w_p1 : Bool} {w_p2 : Bool} {w_p3 : Bool} {ad_p3 : String} {F : List Ent} (mp1 : (p1, w_p1, oJdqlLexer_Token f_p1_0 (vr p2) f_p1_2 f_p1_3) ∈ F) (mp2 : (p2, w_p2, oString (vr p3) (vi 0)) ∈ F) (mp3 : (p3, w_p3, ar ad_p3 .byte []) ∈ F) : Con Z EL y33 y33b 6 y33r (rmm 5 5 8 71) [(vr p1)] (F) (fun v D' => (∃ a4 a5 : Addr, v = some (vr a4) ∧ (a5, true, ar "[B" .byte []) :: (a4, true, oString (vr a5) (vi 0)) :: F = D')) := by
  refine Con.of (ls := #[rv p1, uu, uu, uu, uu, uu]) (by decide +kernel) rfl ?_
  refine W.new d6_0 (wq hw 50 rfl) (wq hw 51 rfl) (wq hw 52 rfl) (laStringBuilder hw) (by decide) (by decide) (fun a1 => ?_)
  show W _ _ _ _ _ _ _ _ _ _ _ _ 3 _ [(vr a1)]
  refine W.dup d6_3 rfl ?_
  refine W.aloadN d6_4 rfl rfl ?_
  refine W.getf d6_5 (wq hw 39 rfl) Via.refl (mS mp1) m1 ?_
  refine W.callV (as := []) 2 [(vr a1), (vr a1)] d6_8 (wq hw 53 rfl) (wq hw 54 rfl) (wq hw 56 rfl) (wq hw 56 rfl) (wq hw 55 rfl) (wq hw 3 rfl) (wq hw 57 rfl) (Hp.exa (mS mp2)) (c259_length hw hs (mp1 := (mS mp2)) (mp2 := (mS mp3))) (by decide) pd__I rfl rfl rfl rfl (by decide) (fun v D' h => ?_)
  obtain ⟨rfl, rfl⟩ := h
  show W _ _ _ _ _ _ _ _ _ _ _ _ 11 _ [(vi 0), (vr a1), (vr a1)]
  refine W.callI (as := [(vi 0)]) 1 [(vr a1)] d6_11 rfl (wq hw 64 rfl) (wq hw 65 rfl) (wq hw 52 rfl) (wq hw 66 rfl) (c260_init hw hs) (by decide) pd_I_V rfl rfl rfl rfl (by decide) (fun v D' h => ?_)
  obtain ⟨a2, rfl, rfl⟩ := h
  show W _ _ _ _ _ _ _ _ _ _ _ _ 14 _ [(vr a1)]
  refine W.astoreN (ls' := #[rv p1, rv a1, uu, uu, uu, uu]) d6_14 rfl rfl ?_
  refine W.aloadN d6_15 rfl rfl ?_
  refine W.getf d6_16 (wq hw 39 rfl) Via.refl (mS (mS mp1)) m1 ?_
  refine W.callV (as := []) 0 [] d6_19 (wq hw 79 rfl) (wq hw 80 rfl) (wq hw 82 rfl) (wq hw 82 rfl) (wq hw 81 rfl) (wq hw 3 rfl) (wq hw 83 rfl) (Hp.exa (mS (mS mp2))) (c262_toCharArray hw hs (mp1 := (mS (mS mp2))) (mp2 := (mS (mS mp3)))) (by decide) pd___C rfl rfl rfl rfl (by decide) (fun v D' h => ?_)
  obtain ⟨a3, rfl, rfl⟩ := h
  show W _ _ _ _ _ _ _ _ _ _ _ _ 22 _ [(vr a3)]
  refine W.astoreN (ls' := #[rv p1, rv a1, rv a3, uu, uu, uu]) d6_22 rfl rfl ?_
  refine W.aloadN d6_23 rfl rfl ?_
  refine W.alen (0) d6_24 m0 rfl ?_
  refine W.istoreN (ls' := #[rv p1, rv a1, rv a3, iv 0, uu, uu]) d6_25 rfl ?_
  refine W.iconst (0) d6_26 (by decide) ?_
  refine W.istore (ls' := #[rv p1, rv a1, rv a3, iv 0, iv 0, uu]) d6_27 rfl ?_
  refine W.iload d6_29 rfl ?_
  refine W.iloadN d6_31 rfl ?_
  refine W.icmpY 80 d6_32 (y_ge (by decide)) (by decide) ?_
  refine W.aloadN d6_80 rfl rfl ?_
  refine W.callV (as := []) 0 [] d6_81 (wq hw 96 rfl) (wq hw 97 rfl) (wq hw 99 rfl) (wq hw 99 rfl) (wq hw 98 rfl) (wq hw 52 rfl) (wq hw 100 rfl) (Hp.exa m2) (c265_toString hw hs (mp1 := m2) (mp2 := m1)) (by decide) pd__Ljava_lang_String_ rfl rfl rfl rfl (by decide) (fun v D' h => ?_)
  obtain ⟨a4, a5, rfl, rfl⟩ := h
  show W _ _ _ _ _ _ _ _ _ _ _ _ 84 _ [(vr a4)]
  refine W.dropAt 2 (D' := (a5, true, ar "[B" .byte []) :: (a4, true, oString (vr a5) (vi 0)) :: (a2, true, ar "[B" .byte []) :: (a1, true, oStringBuilder (vr a2) (vi 0) (vi 0) (vi 0)) :: F) rfl ?_
  refine W.dropAt 2 (D' := (a5, true, ar "[B" .byte []) :: (a4, true, oString (vr a5) (vi 0)) :: (a1, true, oStringBuilder (vr a2) (vi 0) (vi 0) (vi 0)) :: F) rfl ?_
  refine W.dropAt 2 (D' := (a5, true, ar "[B" .byte []) :: (a4, true, oString (vr a5) (vi 0)) :: F) rfl ?_
  exact W.areturn d6_84 rfl rfl rfl (by decide) ⟨a4, a5, rfl, rfl⟩
set_option maxHeartbeats 4000000 in
theorem lawW {Z a0} (hw : HW a0 Z) (hs : SF Z) (z0 : Int32) (z1 : Int32) (z2 : Int32) (z3 : Int32) : Con Z EL x code maxLocals ret room_1 [(vi z0), (vi z1), (vi z2), (vi z3)] ([]) (fun v _ => v = some (.int 1)) := by
  refine Con.of (ls := #[iv z0, iv z1, iv z2, iv z3, uu, uu, uu, uu, uu, uu, uu, uu]) (by decide +kernel) rfl ?_
  show W Z EL _ "com/example/rochester/rochester/TokenLowerCasePinLaw" "law" _ _ _ _ _ _ _ _ _ _
  refine W.iloadN at_0 rfl ?_
  refine W.iconst (3) at_1 (by decide) ?_
  refine W.iand at_2 ?_
  refine W.istore (ls' := #[iv z0, iv z1, iv z2, iv z3, iv (z0 &&& (3 : Int32)), uu, uu, uu, uu, uu, uu, uu]) at_3 rfl ?_
  refine W.iloadN at_5 rfl ?_
  refine W.i2c at_6 ?_
  refine W.istore (ls' := #[iv z0, iv z1, iv z2, iv z3, iv (z0 &&& (3 : Int32)), iv z1.toUInt32.toUInt16.toUInt32.toInt32, uu, uu, uu, uu, uu, uu]) at_7 rfl ?_
  refine W.iloadN at_9 rfl ?_
  refine W.i2c at_10 ?_
  refine W.istore (ls' := #[iv z0, iv z1, iv z2, iv z3, iv (z0 &&& (3 : Int32)), iv z1.toUInt32.toUInt16.toUInt32.toInt32, iv z2.toUInt32.toUInt16.toUInt32.toInt32, uu, uu, uu, uu, uu]) at_11 rfl ?_
  refine W.iloadN at_13 rfl ?_
  refine W.i2c at_14 ?_
  refine W.istore (ls' := #[iv z0, iv z1, iv z2, iv z3, iv (z0 &&& (3 : Int32)), iv z1.toUInt32.toUInt16.toUInt32.toInt32, iv z2.toUInt32.toUInt16.toUInt32.toInt32, iv z3.toUInt32.toUInt16.toUInt32.toInt32, uu, uu, uu, uu]) at_15 rfl ?_
  refine W.iload at_17 rfl ?_
  refine W.if 30 at_19 (by decide) (fun h1 => ?_) (fun h1 => ?_)
  ·
   have ih1 := t_ne h1
   refine W.iload at_30 rfl ?_
   refine W.iconst (1) at_32 (by decide) ?_
   refine W.icmp 49 at_33 (by decide) (fun h2 => ?_) (fun h2 => ?_)
   ·
    have ih2 := t_ne h2
    refine W.iload at_49 rfl ?_
    refine W.iconst (2) at_51 (by decide) ?_
    refine W.icmp 73 at_52 (by decide) (fun h3 => ?_) (fun h3 => ?_)
    ·
     have ih3 := t_ne h3
     refine W.iconst (3) at_73 (by decide) ?_
     refine W.newarr 3 (ad := "[C") (ty := .char) at_74 rfl (wq hw 0 rfl) ix3 rfl (by decide) (by decide) (fun a1 => ?_)
     show W _ _ _ _ _ _ _ _ _ _ _ _ 76 _ [(vr a1)]
     refine W.dup at_76 rfl ?_
     refine W.iconst (0) at_77 (by decide) ?_
     refine W.iload at_78 rfl ?_
     refine W.castore (D' := (a1, true, ar "[C" .char [(vi z1.toUInt32.toUInt16.toUInt32.toInt32), (vi 0), (vi 0)]) :: []) 0 0 at_80 rfl ix0 (Nat.le_of_ble_eq_true rfl) (z_narC (by have := rng32 z1; have := a_i2c z1; omega)) rfl ?_
     refine W.dup at_81 rfl ?_
     refine W.iconst (1) at_82 (by decide) ?_
     refine W.iload at_83 rfl ?_
     refine W.castore (D' := (a1, true, ar "[C" .char [(vi z1.toUInt32.toUInt16.toUInt32.toInt32), (vi z2.toUInt32.toUInt16.toUInt32.toInt32), (vi 0)]) :: []) 0 1 at_85 rfl ix1 (Nat.le_of_ble_eq_true rfl) (z_narC (by have := rng32 z2; have := a_i2c z2; omega)) rfl ?_
     refine W.dup at_86 rfl ?_
     refine W.iconst (2) at_87 (by decide) ?_
     refine W.iload at_88 rfl ?_
     refine W.castore (D' := (a1, true, ar "[C" .char [(vi z1.toUInt32.toUInt16.toUInt32.toInt32), (vi z2.toUInt32.toUInt16.toUInt32.toInt32), (vi z3.toUInt32.toUInt16.toUInt32.toInt32)]) :: []) 0 2 at_90 rfl ix2 (Nat.le_of_ble_eq_true rfl) (z_narC (by have := rng32 z3; have := a_i2c z3; omega)) rfl ?_
     refine W.astore (ls' := #[iv z0, iv z1, iv z2, iv z3, iv (z0 &&& (3 : Int32)), iv z1.toUInt32.toUInt16.toUInt32.toInt32, iv z2.toUInt32.toUInt16.toUInt32.toInt32, iv z3.toUInt32.toUInt16.toUInt32.toInt32, rv a1, uu, uu, uu]) at_91 rfl rfl ?_
     refine W.new at_93 (wq hw 1 rfl) (wq hw 2 rfl) (wq hw 3 rfl) (laString hw) (by decide) (by decide) (fun a2 => ?_)
     show W _ _ _ _ _ _ _ _ _ _ _ _ 96 _ [(vr a2)]
     refine W.dup at_96 rfl ?_
     refine W.aload 8 at_97 rfl rfl ?_
     refine W.callI (as := [(vr a1)]) 1 [(vr a2)] at_99 rfl (wq hw 4 rfl) (wq hw 5 rfl) (wq hw 3 rfl) (wq hw 6 rfl) (c1_init hw hs (hx1 := (by have := rng32 z1; have := a_i2c z1; omega)) (hx2 := (by have := rng32 z2; have := a_i2c z2; omega)) (hx3 := (by have := rng32 z3; have := a_i2c z3; omega)) (mp2 := m0)) (by decide) pd__C_V rfl rfl rfl rfl (by decide) (fun v D' h => ?_)
     rcases h with ⟨a3, h4, h5, h6, rfl, rfl⟩ | ⟨a4, h7, h8, h9, rfl, rfl⟩ | ⟨a5, h10, h11, rfl, rfl⟩ | ⟨a6, h12, rfl, rfl⟩
     ·
      have ih4 := t_le h4
      have ih5 := t_le h5
      have ih6 := t_le h6
      show W _ _ _ _ _ _ _ _ _ _ _ _ 102 _ [(vr a2)]
      refine W.astore (ls' := #[iv z0, iv z1, iv z2, iv z3, iv (z0 &&& (3 : Int32)), iv z1.toUInt32.toUInt16.toUInt32.toInt32, iv z2.toUInt32.toUInt16.toUInt32.toInt32, iv z3.toUInt32.toUInt16.toUInt32.toInt32, rv a1, rv a2, uu, uu]) at_102 rfl rfl ?_
      refine W.new at_104 (wq hw 22 rfl) (wq hw 23 rfl) (wq hw 24 rfl) (laJdqlLexer_Token hw) (by decide) (by decide) (fun a7 => ?_)
      show W _ _ _ _ _ _ _ _ _ _ _ _ 107 _ [(vr a7)]
      refine W.dup at_107 rfl ?_
      refine W.gets at_108 (wq hw 25 rfl) Via.refl hs.2.2.2.2.2.2.2.1 ?_
      refine W.aload 9 at_111 rfl rfl ?_
      refine W.iconst (0) at_113 (by decide) ?_
      refine W.iload at_114 rfl ?_
      refine W.callI (as := [(vr (kWORD Z)), (vr a2), (vi 0), (vi (z0 &&& (3 : Int32)))]) 1 [(vr a7)] at_116 rfl (wq hw 28 rfl) (wq hw 29 rfl) (wq hw 24 rfl) (wq hw 30 rfl) (c16_init hw hs (hx1 := (by have := rng32 z0; have := q3; have := am_3 z0; have := q0; have := q1; have := q2; omega))) (by decide) pd_Lcom_example_rochester_rochester_JdqlLexer_Kind_Ljava_lang_String_II_V rfl rfl rfl rfl (by decide) (fun v D' h => ?_)
      obtain ⟨rfl, rfl⟩ := h
      show W _ _ _ _ _ _ _ _ _ _ _ _ 119 _ [(vr a7)]
      refine W.astore (ls' := #[iv z0, iv z1, iv z2, iv z3, iv (z0 &&& (3 : Int32)), iv z1.toUInt32.toUInt16.toUInt32.toInt32, iv z2.toUInt32.toUInt16.toUInt32.toInt32, iv z3.toUInt32.toUInt16.toUInt32.toInt32, rv a1, rv a2, rv a7, uu]) at_119 rfl rfl ?_
      refine W.aload 10 at_121 rfl rfl ?_
      refine W.callV (as := []) 0 [] at_123 (wq hw 45 rfl) (wq hw 46 rfl) (wq hw 48 rfl) (wq hw 48 rfl) (wq hw 47 rfl) (wq hw 24 rfl) (wq hw 49 rfl) (Hp.exa m0) (c18_lowerCase hw hs (hx2 := (by have := rng32 z1; have := a_i2c z1; have := q255; omega)) (hx3 := (by have := rng32 z2; have := a_i2c z2; have := q255; omega)) (hx4 := (by have := rng32 z3; have := a_i2c z3; have := q255; omega)) (mp1 := m0) (mp2 := m2) (mp3 := m1)) (by decide) pd__Ljava_lang_String_ rfl rfl rfl rfl (by decide) (fun v D' h => ?_)
      obtain ⟨a8, a9, rfl, rfl⟩ := h
      show W _ _ _ _ _ _ _ _ _ _ _ _ 126 _ [(vr a8)]
      refine W.astore (ls' := #[iv z0, iv z1, iv z2, iv z3, iv (z0 &&& (3 : Int32)), iv z1.toUInt32.toUInt16.toUInt32.toInt32, iv z2.toUInt32.toUInt16.toUInt32.toInt32, iv z3.toUInt32.toUInt16.toUInt32.toInt32, rv a1, rv a2, rv a7, rv a8]) at_126 rfl rfl ?_
      refine W.aload 11 at_128 rfl rfl ?_
      refine W.callV (as := []) 0 [] at_130 (wq hw 142 rfl) (wq hw 54 rfl) (wq hw 56 rfl) (wq hw 56 rfl) (wq hw 55 rfl) (wq hw 3 rfl) (wq hw 57 rfl) (Hp.exa m1) (c19_length hw hs (hvs_p2 := rfl) (mp1 := m1) (mp2 := m0)) (by decide) pd__I rfl rfl rfl rfl (by decide) (fun v D' h => ?_)
      obtain ⟨rfl, rfl⟩ := h
      show W _ _ _ _ _ _ _ _ _ _ _ _ 133 _ [(vi 3)]
      refine W.iload at_133 rfl ?_
      refine W.icmpY 140 at_135 (y_eq (by have := q3; have := rng32 z0; have := am_3 z0; have := q0; have := q1; have := q2; omega)) (by decide) ?_
      refine W.iload at_140 rfl ?_
      refine W.iconst (1) at_142 (by decide) ?_
      refine W.icmpN at_143 (n_lt (by have := rng32 z0; have := q3; have := am_3 z0; have := q1; have := q0; have := q2; omega)) ?_
      refine W.aload 11 at_146 rfl rfl ?_
      refine W.iconst (0) at_148 (by decide) ?_
      refine W.callV (as := [(vi 0)]) 0 [] at_149 (wq hw 171 rfl) (wq hw 172 rfl) (wq hw 174 rfl) (wq hw 174 rfl) (wq hw 173 rfl) (wq hw 3 rfl) (wq hw 175 rfl) (Hp.exa m1) (c45_charAt hw hs (hx1 := (by have := rng32 z1; have := a_i2c z1; have := a_lc z1.toUInt32.toUInt16.toUInt32.toInt32; have := q255; omega)) (mp1 := m1) (mp2 := m0)) (by decide) pd_I_C rfl rfl rfl rfl (by decide) (fun v D' h => ?_)
      obtain ⟨rfl, rfl⟩ := h
      show W _ _ _ _ _ _ _ _ _ _ _ _ 152 _ [(vi (lc z1.toUInt32.toUInt16.toUInt32.toInt32))]
      refine W.iload at_152 rfl ?_
      refine W.callS (as := [(vi z1.toUInt32.toUInt16.toUInt32.toInt32)]) 1 [(vi (lc z1.toUInt32.toUInt16.toUInt32.toInt32))] at_154 (wq hw 187 rfl) (wq hw 188 rfl) (wq hw 189 rfl) (wq hw 190 rfl) (c49_expectedm hw hs (hx1 := (by have := rng32 z1; have := a_i2c z1; have := q255; omega))) (by decide) pd_C_C rfl rfl rfl rfl (by decide) (fun v D' h => ?_)
      obtain ⟨rfl, rfl⟩ := h
      show W _ _ _ _ _ _ _ _ _ _ _ _ 157 _ [(vi (lc z1.toUInt32.toUInt16.toUInt32.toInt32)), (vi (lc z1.toUInt32.toUInt16.toUInt32.toInt32))]
      refine W.icmpY 162 at_157 (y_eq (by have := rng32 z1; have := a_i2c z1; have := a_lc z1.toUInt32.toUInt16.toUInt32.toInt32; have := q255; omega)) (by decide) ?_
      refine W.iload at_162 rfl ?_
      refine W.iconst (2) at_164 (by decide) ?_
      refine W.icmpN at_165 (n_lt (by have := rng32 z0; have := q3; have := am_3 z0; have := q2; have := q0; have := q1; omega)) ?_
      refine W.aload 11 at_168 rfl rfl ?_
      refine W.iconst (1) at_170 (by decide) ?_
      refine W.callV (as := [(vi 1)]) 0 [] at_171 (wq hw 171 rfl) (wq hw 172 rfl) (wq hw 174 rfl) (wq hw 174 rfl) (wq hw 173 rfl) (wq hw 3 rfl) (wq hw 175 rfl) (Hp.exa m1) (c50_charAt hw hs (hx2 := (by have := rng32 z2; have := a_i2c z2; have := a_lc z2.toUInt32.toUInt16.toUInt32.toInt32; have := q255; omega)) (mp1 := m1) (mp2 := m0)) (by decide) pd_I_C rfl rfl rfl rfl (by decide) (fun v D' h => ?_)
      obtain ⟨rfl, rfl⟩ := h
      show W _ _ _ _ _ _ _ _ _ _ _ _ 174 _ [(vi (lc z2.toUInt32.toUInt16.toUInt32.toInt32))]
      refine W.iload at_174 rfl ?_
      refine W.callS (as := [(vi z2.toUInt32.toUInt16.toUInt32.toInt32)]) 1 [(vi (lc z2.toUInt32.toUInt16.toUInt32.toInt32))] at_176 (wq hw 187 rfl) (wq hw 188 rfl) (wq hw 189 rfl) (wq hw 190 rfl) (c49_expectedm hw hs (hx1 := (by have := rng32 z2; have := a_i2c z2; have := q255; omega))) (by decide) pd_C_C rfl rfl rfl rfl (by decide) (fun v D' h => ?_)
      obtain ⟨rfl, rfl⟩ := h
      show W _ _ _ _ _ _ _ _ _ _ _ _ 179 _ [(vi (lc z2.toUInt32.toUInt16.toUInt32.toInt32)), (vi (lc z2.toUInt32.toUInt16.toUInt32.toInt32))]
      refine W.icmpY 184 at_179 (y_eq (by have := rng32 z2; have := a_i2c z2; have := a_lc z2.toUInt32.toUInt16.toUInt32.toInt32; have := q255; omega)) (by decide) ?_
      refine W.iload at_184 rfl ?_
      refine W.iconst (3) at_186 (by decide) ?_
      refine W.icmpN at_187 (n_lt (by have := rng32 z0; have := q3; have := am_3 z0; have := q0; have := q1; have := q2; omega)) ?_
      refine W.aload 11 at_190 rfl rfl ?_
      refine W.iconst (2) at_192 (by decide) ?_
      refine W.callV (as := [(vi 2)]) 0 [] at_193 (wq hw 171 rfl) (wq hw 172 rfl) (wq hw 174 rfl) (wq hw 174 rfl) (wq hw 173 rfl) (wq hw 3 rfl) (wq hw 175 rfl) (Hp.exa m1) (c52_charAt hw hs (hx3 := (by have := rng32 z3; have := a_i2c z3; have := a_lc z3.toUInt32.toUInt16.toUInt32.toInt32; have := q255; omega)) (mp1 := m1) (mp2 := m0)) (by decide) pd_I_C rfl rfl rfl rfl (by decide) (fun v D' h => ?_)
      obtain ⟨rfl, rfl⟩ := h
      show W _ _ _ _ _ _ _ _ _ _ _ _ 196 _ [(vi (lc z3.toUInt32.toUInt16.toUInt32.toInt32))]
      refine W.iload at_196 rfl ?_
      refine W.callS (as := [(vi z3.toUInt32.toUInt16.toUInt32.toInt32)]) 1 [(vi (lc z3.toUInt32.toUInt16.toUInt32.toInt32))] at_198 (wq hw 187 rfl) (wq hw 188 rfl) (wq hw 189 rfl) (wq hw 190 rfl) (c49_expectedm hw hs (hx1 := (by have := rng32 z3; have := a_i2c z3; have := q255; omega))) (by decide) pd_C_C rfl rfl rfl rfl (by decide) (fun v D' h => ?_)
      obtain ⟨rfl, rfl⟩ := h
      show W _ _ _ _ _ _ _ _ _ _ _ _ 201 _ [(vi (lc z3.toUInt32.toUInt16.toUInt32.toInt32)), (vi (lc z3.toUInt32.toUInt16.toUInt32.toInt32))]
      refine W.icmpY 206 at_201 (y_eq (by have := rng32 z3; have := a_i2c z3; have := a_lc z3.toUInt32.toUInt16.toUInt32.toInt32; have := q255; omega)) (by decide) ?_
      refine W.iconst (1) at_206 (by decide) ?_
      exact W.ireturn at_207 rfl (Or.inr (Or.inl rfl)) (nw_bool (by decide)) (by decide) rfl
     ·
      have ih7 := t_le h7
      have ih8 := t_le h8
      have ih9 := f_le h9
      show W _ _ _ _ _ _ _ _ _ _ _ _ 102 _ [(vr a2)]
      refine W.astore (ls' := #[iv z0, iv z1, iv z2, iv z3, iv (z0 &&& (3 : Int32)), iv z1.toUInt32.toUInt16.toUInt32.toInt32, iv z2.toUInt32.toUInt16.toUInt32.toInt32, iv z3.toUInt32.toUInt16.toUInt32.toInt32, rv a1, rv a2, uu, uu]) at_102 rfl rfl ?_
      refine W.new at_104 (wq hw 22 rfl) (wq hw 23 rfl) (wq hw 24 rfl) (laJdqlLexer_Token hw) (by decide) (by decide) (fun a10 => ?_)
      show W _ _ _ _ _ _ _ _ _ _ _ _ 107 _ [(vr a10)]
      refine W.dup at_107 rfl ?_
      refine W.gets at_108 (wq hw 25 rfl) Via.refl hs.2.2.2.2.2.2.2.1 ?_
      refine W.aload 9 at_111 rfl rfl ?_
      refine W.iconst (0) at_113 (by decide) ?_
      refine W.iload at_114 rfl ?_
      refine W.callI (as := [(vr (kWORD Z)), (vr a2), (vi 0), (vi (z0 &&& (3 : Int32)))]) 1 [(vr a10)] at_116 rfl (wq hw 28 rfl) (wq hw 29 rfl) (wq hw 24 rfl) (wq hw 30 rfl) (c16_init hw hs (hx1 := (by have := rng32 z0; have := q3; have := am_3 z0; have := q0; have := q1; have := q2; omega))) (by decide) pd_Lcom_example_rochester_rochester_JdqlLexer_Kind_Ljava_lang_String_II_V rfl rfl rfl rfl (by decide) (fun v D' h => ?_)
      obtain ⟨rfl, rfl⟩ := h
      show W _ _ _ _ _ _ _ _ _ _ _ _ 119 _ [(vr a10)]
      refine W.astore (ls' := #[iv z0, iv z1, iv z2, iv z3, iv (z0 &&& (3 : Int32)), iv z1.toUInt32.toUInt16.toUInt32.toInt32, iv z2.toUInt32.toUInt16.toUInt32.toInt32, iv z3.toUInt32.toUInt16.toUInt32.toInt32, rv a1, rv a2, rv a10, uu]) at_119 rfl rfl ?_
      refine W.aload 10 at_121 rfl rfl ?_
      refine W.callV (as := []) 0 [] at_123 (wq hw 45 rfl) (wq hw 46 rfl) (wq hw 48 rfl) (wq hw 48 rfl) (wq hw 47 rfl) (wq hw 24 rfl) (wq hw 49 rfl) (Hp.exa m0) (c54_lowerCase hw hs (hx2 := (by have := rng32 z1; have := a_i2c z1; have := q255; omega)) (hx3 := (by have := rng32 z2; have := a_i2c z2; have := q255; omega)) (hx4 := (by have := rng32 z3; have := a_i2c z3; have := q255; omega)) (mp1 := m0) (mp2 := m2) (mp3 := m1)) (by decide) pd__Ljava_lang_String_ rfl rfl rfl rfl (by decide) (fun v D' h => ?_)
      obtain ⟨a11, a12, rfl, rfl⟩ := h
      show W _ _ _ _ _ _ _ _ _ _ _ _ 126 _ [(vr a11)]
      refine W.astore (ls' := #[iv z0, iv z1, iv z2, iv z3, iv (z0 &&& (3 : Int32)), iv z1.toUInt32.toUInt16.toUInt32.toInt32, iv z2.toUInt32.toUInt16.toUInt32.toInt32, iv z3.toUInt32.toUInt16.toUInt32.toInt32, rv a1, rv a2, rv a10, rv a11]) at_126 rfl rfl ?_
      refine W.aload 11 at_128 rfl rfl ?_
      refine W.callV (as := []) 0 [] at_130 (wq hw 142 rfl) (wq hw 54 rfl) (wq hw 56 rfl) (wq hw 56 rfl) (wq hw 55 rfl) (wq hw 3 rfl) (wq hw 57 rfl) (Hp.exa m1) (c55_length hw hs (hvs_p2 := rfl) (mp1 := m1) (mp2 := m0)) (by decide) pd__I rfl rfl rfl rfl (by decide) (fun v D' h => ?_)
      obtain ⟨rfl, rfl⟩ := h
      show W _ _ _ _ _ _ _ _ _ _ _ _ 133 _ [(vi 3)]
      refine W.iload at_133 rfl ?_
      refine W.icmpY 140 at_135 (y_eq (by have := q3; have := rng32 z0; have := am_3 z0; have := q0; have := q1; have := q2; omega)) (by decide) ?_
      refine W.iload at_140 rfl ?_
      refine W.iconst (1) at_142 (by decide) ?_
      refine W.icmpN at_143 (n_lt (by have := rng32 z0; have := q3; have := am_3 z0; have := q1; have := q0; have := q2; omega)) ?_
      refine W.aload 11 at_146 rfl rfl ?_
      refine W.iconst (0) at_148 (by decide) ?_
      refine W.callV (as := [(vi 0)]) 0 [] at_149 (wq hw 171 rfl) (wq hw 172 rfl) (wq hw 174 rfl) (wq hw 174 rfl) (wq hw 173 rfl) (wq hw 3 rfl) (wq hw 175 rfl) (Hp.exa m1) (c81_charAt hw hs (hx1 := (by have := rng32 z1; have := a_i2c z1; have := a_lc z1.toUInt32.toUInt16.toUInt32.toInt32; have := q255; omega)) (mp1 := m1) (mp2 := m0)) (by decide) pd_I_C rfl rfl rfl rfl (by decide) (fun v D' h => ?_)
      obtain ⟨rfl, rfl⟩ := h
      show W _ _ _ _ _ _ _ _ _ _ _ _ 152 _ [(vi (lc z1.toUInt32.toUInt16.toUInt32.toInt32))]
      refine W.iload at_152 rfl ?_
      refine W.callS (as := [(vi z1.toUInt32.toUInt16.toUInt32.toInt32)]) 1 [(vi (lc z1.toUInt32.toUInt16.toUInt32.toInt32))] at_154 (wq hw 187 rfl) (wq hw 188 rfl) (wq hw 189 rfl) (wq hw 190 rfl) (c49_expectedm hw hs (hx1 := (by have := rng32 z1; have := a_i2c z1; have := q255; omega))) (by decide) pd_C_C rfl rfl rfl rfl (by decide) (fun v D' h => ?_)
      obtain ⟨rfl, rfl⟩ := h
      show W _ _ _ _ _ _ _ _ _ _ _ _ 157 _ [(vi (lc z1.toUInt32.toUInt16.toUInt32.toInt32)), (vi (lc z1.toUInt32.toUInt16.toUInt32.toInt32))]
      refine W.icmpY 162 at_157 (y_eq (by have := rng32 z1; have := a_i2c z1; have := a_lc z1.toUInt32.toUInt16.toUInt32.toInt32; have := q255; omega)) (by decide) ?_
      refine W.iload at_162 rfl ?_
      refine W.iconst (2) at_164 (by decide) ?_
      refine W.icmpN at_165 (n_lt (by have := rng32 z0; have := q3; have := am_3 z0; have := q2; have := q0; have := q1; omega)) ?_
      refine W.aload 11 at_168 rfl rfl ?_
      refine W.iconst (1) at_170 (by decide) ?_
      refine W.callV (as := [(vi 1)]) 0 [] at_171 (wq hw 171 rfl) (wq hw 172 rfl) (wq hw 174 rfl) (wq hw 174 rfl) (wq hw 173 rfl) (wq hw 3 rfl) (wq hw 175 rfl) (Hp.exa m1) (c84_charAt hw hs (hx2 := (by have := rng32 z2; have := a_i2c z2; have := a_lc z2.toUInt32.toUInt16.toUInt32.toInt32; have := q255; omega)) (mp1 := m1) (mp2 := m0)) (by decide) pd_I_C rfl rfl rfl rfl (by decide) (fun v D' h => ?_)
      obtain ⟨rfl, rfl⟩ := h
      show W _ _ _ _ _ _ _ _ _ _ _ _ 174 _ [(vi (lc z2.toUInt32.toUInt16.toUInt32.toInt32))]
      refine W.iload at_174 rfl ?_
      refine W.callS (as := [(vi z2.toUInt32.toUInt16.toUInt32.toInt32)]) 1 [(vi (lc z2.toUInt32.toUInt16.toUInt32.toInt32))] at_176 (wq hw 187 rfl) (wq hw 188 rfl) (wq hw 189 rfl) (wq hw 190 rfl) (c49_expectedm hw hs (hx1 := (by have := rng32 z2; have := a_i2c z2; have := q255; omega))) (by decide) pd_C_C rfl rfl rfl rfl (by decide) (fun v D' h => ?_)
      obtain ⟨rfl, rfl⟩ := h
      show W _ _ _ _ _ _ _ _ _ _ _ _ 179 _ [(vi (lc z2.toUInt32.toUInt16.toUInt32.toInt32)), (vi (lc z2.toUInt32.toUInt16.toUInt32.toInt32))]
      refine W.icmpY 184 at_179 (y_eq (by have := rng32 z2; have := a_i2c z2; have := a_lc z2.toUInt32.toUInt16.toUInt32.toInt32; have := q255; omega)) (by decide) ?_
      refine W.iload at_184 rfl ?_
      refine W.iconst (3) at_186 (by decide) ?_
      refine W.icmpN at_187 (n_lt (by have := rng32 z0; have := q3; have := am_3 z0; have := q0; have := q1; have := q2; omega)) ?_
      refine W.aload 11 at_190 rfl rfl ?_
      refine W.iconst (2) at_192 (by decide) ?_
      refine W.callV (as := [(vi 2)]) 0 [] at_193 (wq hw 171 rfl) (wq hw 172 rfl) (wq hw 174 rfl) (wq hw 174 rfl) (wq hw 173 rfl) (wq hw 3 rfl) (wq hw 175 rfl) (Hp.exa m1) (c87_charAt hw hs (hx3 := (by have := rng32 z3; have := a_i2c z3; have := a_lc z3.toUInt32.toUInt16.toUInt32.toInt32; have := q255; omega)) (mp1 := m1) (mp2 := m0)) (by decide) pd_I_C rfl rfl rfl rfl (by decide) (fun v D' h => ?_)
      obtain ⟨rfl, rfl⟩ := h
      show W _ _ _ _ _ _ _ _ _ _ _ _ 196 _ [(vi (lc z3.toUInt32.toUInt16.toUInt32.toInt32))]
      refine W.iload at_196 rfl ?_
      refine W.callS (as := [(vi z3.toUInt32.toUInt16.toUInt32.toInt32)]) 1 [(vi (lc z3.toUInt32.toUInt16.toUInt32.toInt32))] at_198 (wq hw 187 rfl) (wq hw 188 rfl) (wq hw 189 rfl) (wq hw 190 rfl) (c89_expectedm hw hs (hx1 := (by have := rng32 z3; have := a_i2c z3; have := q255; omega))) (by decide) pd_C_C rfl rfl rfl rfl (by decide) (fun v D' h => ?_)
      obtain ⟨rfl, rfl⟩ := h
      show W _ _ _ _ _ _ _ _ _ _ _ _ 201 _ [(vi (lc z3.toUInt32.toUInt16.toUInt32.toInt32)), (vi (lc z3.toUInt32.toUInt16.toUInt32.toInt32))]
      refine W.icmpY 206 at_201 (y_eq (by have := rng32 z3; have := a_i2c z3; have := a_lc z3.toUInt32.toUInt16.toUInt32.toInt32; have := q255; omega)) (by decide) ?_
      refine W.iconst (1) at_206 (by decide) ?_
      exact W.ireturn at_207 rfl (Or.inr (Or.inl rfl)) (nw_bool (by decide)) (by decide) rfl
     ·
      have ih10 := t_le h10
      have ih11 := f_le h11
      show W _ _ _ _ _ _ _ _ _ _ _ _ 102 _ [(vr a2)]
      refine W.astore (ls' := #[iv z0, iv z1, iv z2, iv z3, iv (z0 &&& (3 : Int32)), iv z1.toUInt32.toUInt16.toUInt32.toInt32, iv z2.toUInt32.toUInt16.toUInt32.toInt32, iv z3.toUInt32.toUInt16.toUInt32.toInt32, rv a1, rv a2, uu, uu]) at_102 rfl rfl ?_
      refine W.new at_104 (wq hw 22 rfl) (wq hw 23 rfl) (wq hw 24 rfl) (laJdqlLexer_Token hw) (by decide) (by decide) (fun a13 => ?_)
      show W _ _ _ _ _ _ _ _ _ _ _ _ 107 _ [(vr a13)]
      refine W.dup at_107 rfl ?_
      refine W.gets at_108 (wq hw 25 rfl) Via.refl hs.2.2.2.2.2.2.2.1 ?_
      refine W.aload 9 at_111 rfl rfl ?_
      refine W.iconst (0) at_113 (by decide) ?_
      refine W.iload at_114 rfl ?_
      refine W.callI (as := [(vr (kWORD Z)), (vr a2), (vi 0), (vi (z0 &&& (3 : Int32)))]) 1 [(vr a13)] at_116 rfl (wq hw 28 rfl) (wq hw 29 rfl) (wq hw 24 rfl) (wq hw 30 rfl) (c16_init hw hs (hx1 := (by have := rng32 z0; have := q3; have := am_3 z0; have := q0; have := q1; have := q2; omega))) (by decide) pd_Lcom_example_rochester_rochester_JdqlLexer_Kind_Ljava_lang_String_II_V rfl rfl rfl rfl (by decide) (fun v D' h => ?_)
      obtain ⟨rfl, rfl⟩ := h
      show W _ _ _ _ _ _ _ _ _ _ _ _ 119 _ [(vr a13)]
      refine W.astore (ls' := #[iv z0, iv z1, iv z2, iv z3, iv (z0 &&& (3 : Int32)), iv z1.toUInt32.toUInt16.toUInt32.toInt32, iv z2.toUInt32.toUInt16.toUInt32.toInt32, iv z3.toUInt32.toUInt16.toUInt32.toInt32, rv a1, rv a2, rv a13, uu]) at_119 rfl rfl ?_
      refine W.aload 10 at_121 rfl rfl ?_
      refine W.callV (as := []) 0 [] at_123 (wq hw 45 rfl) (wq hw 46 rfl) (wq hw 48 rfl) (wq hw 48 rfl) (wq hw 47 rfl) (wq hw 24 rfl) (wq hw 49 rfl) (Hp.exa m0) (c90_lowerCase hw hs (hx2 := (by have := rng32 z1; have := a_i2c z1; have := q255; omega)) (hx3 := (by have := rng32 z2; have := a_i2c z2; have := q255; omega)) (hx4 := (by have := rng32 z3; have := a_i2c z3; omega)) (mp1 := m0) (mp2 := m2) (mp3 := m1)) (by decide) pd__Ljava_lang_String_ rfl rfl rfl rfl (by decide) (fun v D' h => ?_)
      obtain ⟨a14, a15, rfl, rfl⟩ := h
      show W _ _ _ _ _ _ _ _ _ _ _ _ 126 _ [(vr a14)]
      refine W.astore (ls' := #[iv z0, iv z1, iv z2, iv z3, iv (z0 &&& (3 : Int32)), iv z1.toUInt32.toUInt16.toUInt32.toInt32, iv z2.toUInt32.toUInt16.toUInt32.toInt32, iv z3.toUInt32.toUInt16.toUInt32.toInt32, rv a1, rv a2, rv a13, rv a14]) at_126 rfl rfl ?_
      refine W.aload 11 at_128 rfl rfl ?_
      refine W.callV (as := []) 0 [] at_130 (wq hw 142 rfl) (wq hw 54 rfl) (wq hw 56 rfl) (wq hw 56 rfl) (wq hw 55 rfl) (wq hw 3 rfl) (wq hw 57 rfl) (Hp.exa m1) (c55_length hw hs (hvs_p2 := rfl) (mp1 := m1) (mp2 := m0)) (by decide) pd__I rfl rfl rfl rfl (by decide) (fun v D' h => ?_)
      obtain ⟨rfl, rfl⟩ := h
      show W _ _ _ _ _ _ _ _ _ _ _ _ 133 _ [(vi 3)]
      refine W.iload at_133 rfl ?_
      refine W.icmpY 140 at_135 (y_eq (by have := q3; have := rng32 z0; have := am_3 z0; have := q0; have := q1; have := q2; omega)) (by decide) ?_
      refine W.iload at_140 rfl ?_
      refine W.iconst (1) at_142 (by decide) ?_
      refine W.icmpN at_143 (n_lt (by have := rng32 z0; have := q3; have := am_3 z0; have := q1; have := q0; have := q2; omega)) ?_
      refine W.aload 11 at_146 rfl rfl ?_
      refine W.iconst (0) at_148 (by decide) ?_
      refine W.callV (as := [(vi 0)]) 0 [] at_149 (wq hw 171 rfl) (wq hw 172 rfl) (wq hw 174 rfl) (wq hw 174 rfl) (wq hw 173 rfl) (wq hw 3 rfl) (wq hw 175 rfl) (Hp.exa m1) (c81_charAt hw hs (hx1 := (by have := rng32 z1; have := a_i2c z1; have := a_lc z1.toUInt32.toUInt16.toUInt32.toInt32; have := q255; omega)) (mp1 := m1) (mp2 := m0)) (by decide) pd_I_C rfl rfl rfl rfl (by decide) (fun v D' h => ?_)
      obtain ⟨rfl, rfl⟩ := h
      show W _ _ _ _ _ _ _ _ _ _ _ _ 152 _ [(vi (lc z1.toUInt32.toUInt16.toUInt32.toInt32))]
      refine W.iload at_152 rfl ?_
      refine W.callS (as := [(vi z1.toUInt32.toUInt16.toUInt32.toInt32)]) 1 [(vi (lc z1.toUInt32.toUInt16.toUInt32.toInt32))] at_154 (wq hw 187 rfl) (wq hw 188 rfl) (wq hw 189 rfl) (wq hw 190 rfl) (c49_expectedm hw hs (hx1 := (by have := rng32 z1; have := a_i2c z1; have := q255; omega))) (by decide) pd_C_C rfl rfl rfl rfl (by decide) (fun v D' h => ?_)
      obtain ⟨rfl, rfl⟩ := h
      show W _ _ _ _ _ _ _ _ _ _ _ _ 157 _ [(vi (lc z1.toUInt32.toUInt16.toUInt32.toInt32)), (vi (lc z1.toUInt32.toUInt16.toUInt32.toInt32))]
      refine W.icmpY 162 at_157 (y_eq (by have := rng32 z1; have := a_i2c z1; have := a_lc z1.toUInt32.toUInt16.toUInt32.toInt32; have := q255; omega)) (by decide) ?_
      refine W.iload at_162 rfl ?_
      refine W.iconst (2) at_164 (by decide) ?_
      refine W.icmpN at_165 (n_lt (by have := rng32 z0; have := q3; have := am_3 z0; have := q2; have := q0; have := q1; omega)) ?_
      refine W.aload 11 at_168 rfl rfl ?_
      refine W.iconst (1) at_170 (by decide) ?_
      refine W.callV (as := [(vi 1)]) 0 [] at_171 (wq hw 171 rfl) (wq hw 172 rfl) (wq hw 174 rfl) (wq hw 174 rfl) (wq hw 173 rfl) (wq hw 3 rfl) (wq hw 175 rfl) (Hp.exa m1) (c84_charAt hw hs (hx2 := (by have := rng32 z2; have := a_i2c z2; have := a_lc z2.toUInt32.toUInt16.toUInt32.toInt32; have := q255; omega)) (mp1 := m1) (mp2 := m0)) (by decide) pd_I_C rfl rfl rfl rfl (by decide) (fun v D' h => ?_)
      obtain ⟨rfl, rfl⟩ := h
      show W _ _ _ _ _ _ _ _ _ _ _ _ 174 _ [(vi (lc z2.toUInt32.toUInt16.toUInt32.toInt32))]
      refine W.iload at_174 rfl ?_
      refine W.callS (as := [(vi z2.toUInt32.toUInt16.toUInt32.toInt32)]) 1 [(vi (lc z2.toUInt32.toUInt16.toUInt32.toInt32))] at_176 (wq hw 187 rfl) (wq hw 188 rfl) (wq hw 189 rfl) (wq hw 190 rfl) (c89_expectedm hw hs (hx1 := (by have := rng32 z2; have := a_i2c z2; have := q255; omega))) (by decide) pd_C_C rfl rfl rfl rfl (by decide) (fun v D' h => ?_)
      obtain ⟨rfl, rfl⟩ := h
      show W _ _ _ _ _ _ _ _ _ _ _ _ 179 _ [(vi (lc z2.toUInt32.toUInt16.toUInt32.toInt32)), (vi (lc z2.toUInt32.toUInt16.toUInt32.toInt32))]
      refine W.icmpY 184 at_179 (y_eq (by have := rng32 z2; have := a_i2c z2; have := a_lc z2.toUInt32.toUInt16.toUInt32.toInt32; have := q255; omega)) (by decide) ?_
      refine W.iload at_184 rfl ?_
      refine W.iconst (3) at_186 (by decide) ?_
      refine W.icmpN at_187 (n_lt (by have := rng32 z0; have := q3; have := am_3 z0; have := q0; have := q1; have := q2; omega)) ?_
      refine W.aload 11 at_190 rfl rfl ?_
      refine W.iconst (2) at_192 (by decide) ?_
      refine W.callV (as := [(vi 2)]) 0 [] at_193 (wq hw 171 rfl) (wq hw 172 rfl) (wq hw 174 rfl) (wq hw 174 rfl) (wq hw 173 rfl) (wq hw 3 rfl) (wq hw 175 rfl) (Hp.exa m1) (c87_charAt hw hs (hx3 := (by have := rng32 z3; have := a_i2c z3; have := a_lc z3.toUInt32.toUInt16.toUInt32.toInt32; omega)) (mp1 := m1) (mp2 := m0)) (by decide) pd_I_C rfl rfl rfl rfl (by decide) (fun v D' h => ?_)
      obtain ⟨rfl, rfl⟩ := h
      show W _ _ _ _ _ _ _ _ _ _ _ _ 196 _ [(vi (lc z3.toUInt32.toUInt16.toUInt32.toInt32))]
      refine W.iload at_196 rfl ?_
      refine W.callS (as := [(vi z3.toUInt32.toUInt16.toUInt32.toInt32)]) 1 [(vi (lc z3.toUInt32.toUInt16.toUInt32.toInt32))] at_198 (wq hw 187 rfl) (wq hw 188 rfl) (wq hw 189 rfl) (wq hw 190 rfl) (c107_expectedm hw hs (hx1 := (by have := rng32 z3; have := a_i2c z3; omega))) (by decide) pd_C_C rfl rfl rfl rfl (by decide) (fun v D' h => ?_)
      obtain ⟨rfl, rfl⟩ := h
      show W _ _ _ _ _ _ _ _ _ _ _ _ 201 _ [(vi (lc z3.toUInt32.toUInt16.toUInt32.toInt32)), (vi (lc z3.toUInt32.toUInt16.toUInt32.toInt32))]
      refine W.icmpY 206 at_201 (y_eq (by have := rng32 z3; have := a_i2c z3; have := a_lc z3.toUInt32.toUInt16.toUInt32.toInt32; omega)) (by decide) ?_
      refine W.iconst (1) at_206 (by decide) ?_
      exact W.ireturn at_207 rfl (Or.inr (Or.inl rfl)) (nw_bool (by decide)) (by decide) rfl
     ·
      have ih12 := f_le h12
      show W _ _ _ _ _ _ _ _ _ _ _ _ 102 _ [(vr a2)]
      refine W.astore (ls' := #[iv z0, iv z1, iv z2, iv z3, iv (z0 &&& (3 : Int32)), iv z1.toUInt32.toUInt16.toUInt32.toInt32, iv z2.toUInt32.toUInt16.toUInt32.toInt32, iv z3.toUInt32.toUInt16.toUInt32.toInt32, rv a1, rv a2, uu, uu]) at_102 rfl rfl ?_
      refine W.new at_104 (wq hw 22 rfl) (wq hw 23 rfl) (wq hw 24 rfl) (laJdqlLexer_Token hw) (by decide) (by decide) (fun a16 => ?_)
      show W _ _ _ _ _ _ _ _ _ _ _ _ 107 _ [(vr a16)]
      refine W.dup at_107 rfl ?_
      refine W.gets at_108 (wq hw 25 rfl) Via.refl hs.2.2.2.2.2.2.2.1 ?_
      refine W.aload 9 at_111 rfl rfl ?_
      refine W.iconst (0) at_113 (by decide) ?_
      refine W.iload at_114 rfl ?_
      refine W.callI (as := [(vr (kWORD Z)), (vr a2), (vi 0), (vi (z0 &&& (3 : Int32)))]) 1 [(vr a16)] at_116 rfl (wq hw 28 rfl) (wq hw 29 rfl) (wq hw 24 rfl) (wq hw 30 rfl) (c16_init hw hs (hx1 := (by have := rng32 z0; have := q3; have := am_3 z0; have := q0; have := q1; have := q2; omega))) (by decide) pd_Lcom_example_rochester_rochester_JdqlLexer_Kind_Ljava_lang_String_II_V rfl rfl rfl rfl (by decide) (fun v D' h => ?_)
      obtain ⟨rfl, rfl⟩ := h
      show W _ _ _ _ _ _ _ _ _ _ _ _ 119 _ [(vr a16)]
      refine W.astore (ls' := #[iv z0, iv z1, iv z2, iv z3, iv (z0 &&& (3 : Int32)), iv z1.toUInt32.toUInt16.toUInt32.toInt32, iv z2.toUInt32.toUInt16.toUInt32.toInt32, iv z3.toUInt32.toUInt16.toUInt32.toInt32, rv a1, rv a2, rv a16, uu]) at_119 rfl rfl ?_
      refine W.aload 10 at_121 rfl rfl ?_
      refine W.callV (as := []) 0 [] at_123 (wq hw 45 rfl) (wq hw 46 rfl) (wq hw 48 rfl) (wq hw 48 rfl) (wq hw 47 rfl) (wq hw 24 rfl) (wq hw 49 rfl) (Hp.exa m0) (c108_lowerCase hw hs (hx2 := (by have := rng32 z1; have := a_i2c z1; have := q255; omega)) (hx3 := (by have := rng32 z2; have := a_i2c z2; omega)) (hx4 := (by have := rng32 z3; have := a_i2c z3; omega)) (mp1 := m0) (mp2 := m2) (mp3 := m1)) (by decide) pd__Ljava_lang_String_ rfl rfl rfl rfl (by decide) (fun v D' h => ?_)
      obtain ⟨a17, a18, rfl, rfl⟩ := h
      show W _ _ _ _ _ _ _ _ _ _ _ _ 126 _ [(vr a17)]
      refine W.astore (ls' := #[iv z0, iv z1, iv z2, iv z3, iv (z0 &&& (3 : Int32)), iv z1.toUInt32.toUInt16.toUInt32.toInt32, iv z2.toUInt32.toUInt16.toUInt32.toInt32, iv z3.toUInt32.toUInt16.toUInt32.toInt32, rv a1, rv a2, rv a16, rv a17]) at_126 rfl rfl ?_
      refine W.aload 11 at_128 rfl rfl ?_
      refine W.callV (as := []) 0 [] at_130 (wq hw 142 rfl) (wq hw 54 rfl) (wq hw 56 rfl) (wq hw 56 rfl) (wq hw 55 rfl) (wq hw 3 rfl) (wq hw 57 rfl) (Hp.exa m1) (c55_length hw hs (hvs_p2 := rfl) (mp1 := m1) (mp2 := m0)) (by decide) pd__I rfl rfl rfl rfl (by decide) (fun v D' h => ?_)
      obtain ⟨rfl, rfl⟩ := h
      show W _ _ _ _ _ _ _ _ _ _ _ _ 133 _ [(vi 3)]
      refine W.iload at_133 rfl ?_
      refine W.icmpY 140 at_135 (y_eq (by have := q3; have := rng32 z0; have := am_3 z0; have := q0; have := q1; have := q2; omega)) (by decide) ?_
      refine W.iload at_140 rfl ?_
      refine W.iconst (1) at_142 (by decide) ?_
      refine W.icmpN at_143 (n_lt (by have := rng32 z0; have := q3; have := am_3 z0; have := q1; have := q0; have := q2; omega)) ?_
      refine W.aload 11 at_146 rfl rfl ?_
      refine W.iconst (0) at_148 (by decide) ?_
      refine W.callV (as := [(vi 0)]) 0 [] at_149 (wq hw 171 rfl) (wq hw 172 rfl) (wq hw 174 rfl) (wq hw 174 rfl) (wq hw 173 rfl) (wq hw 3 rfl) (wq hw 175 rfl) (Hp.exa m1) (c81_charAt hw hs (hx1 := (by have := rng32 z1; have := a_i2c z1; have := a_lc z1.toUInt32.toUInt16.toUInt32.toInt32; have := q255; omega)) (mp1 := m1) (mp2 := m0)) (by decide) pd_I_C rfl rfl rfl rfl (by decide) (fun v D' h => ?_)
      obtain ⟨rfl, rfl⟩ := h
      show W _ _ _ _ _ _ _ _ _ _ _ _ 152 _ [(vi (lc z1.toUInt32.toUInt16.toUInt32.toInt32))]
      refine W.iload at_152 rfl ?_
      refine W.callS (as := [(vi z1.toUInt32.toUInt16.toUInt32.toInt32)]) 1 [(vi (lc z1.toUInt32.toUInt16.toUInt32.toInt32))] at_154 (wq hw 187 rfl) (wq hw 188 rfl) (wq hw 189 rfl) (wq hw 190 rfl) (c89_expectedm hw hs (hx1 := (by have := rng32 z1; have := a_i2c z1; have := q255; omega))) (by decide) pd_C_C rfl rfl rfl rfl (by decide) (fun v D' h => ?_)
      obtain ⟨rfl, rfl⟩ := h
      show W _ _ _ _ _ _ _ _ _ _ _ _ 157 _ [(vi (lc z1.toUInt32.toUInt16.toUInt32.toInt32)), (vi (lc z1.toUInt32.toUInt16.toUInt32.toInt32))]
      refine W.icmpY 162 at_157 (y_eq (by have := rng32 z1; have := a_i2c z1; have := a_lc z1.toUInt32.toUInt16.toUInt32.toInt32; have := q255; omega)) (by decide) ?_
      refine W.iload at_162 rfl ?_
      refine W.iconst (2) at_164 (by decide) ?_
      refine W.icmpN at_165 (n_lt (by have := rng32 z0; have := q3; have := am_3 z0; have := q2; have := q0; have := q1; omega)) ?_
      refine W.aload 11 at_168 rfl rfl ?_
      refine W.iconst (1) at_170 (by decide) ?_
      refine W.callV (as := [(vi 1)]) 0 [] at_171 (wq hw 171 rfl) (wq hw 172 rfl) (wq hw 174 rfl) (wq hw 174 rfl) (wq hw 173 rfl) (wq hw 3 rfl) (wq hw 175 rfl) (Hp.exa m1) (c84_charAt hw hs (hx2 := (by have := rng32 z2; have := a_i2c z2; have := a_lc z2.toUInt32.toUInt16.toUInt32.toInt32; omega)) (mp1 := m1) (mp2 := m0)) (by decide) pd_I_C rfl rfl rfl rfl (by decide) (fun v D' h => ?_)
      obtain ⟨rfl, rfl⟩ := h
      show W _ _ _ _ _ _ _ _ _ _ _ _ 174 _ [(vi (lc z2.toUInt32.toUInt16.toUInt32.toInt32))]
      refine W.iload at_174 rfl ?_
      refine W.callS (as := [(vi z2.toUInt32.toUInt16.toUInt32.toInt32)]) 1 [(vi (lc z2.toUInt32.toUInt16.toUInt32.toInt32))] at_176 (wq hw 187 rfl) (wq hw 188 rfl) (wq hw 189 rfl) (wq hw 190 rfl) (c107_expectedm hw hs (hx1 := (by have := rng32 z2; have := a_i2c z2; omega))) (by decide) pd_C_C rfl rfl rfl rfl (by decide) (fun v D' h => ?_)
      obtain ⟨rfl, rfl⟩ := h
      show W _ _ _ _ _ _ _ _ _ _ _ _ 179 _ [(vi (lc z2.toUInt32.toUInt16.toUInt32.toInt32)), (vi (lc z2.toUInt32.toUInt16.toUInt32.toInt32))]
      refine W.icmpY 184 at_179 (y_eq (by have := rng32 z2; have := a_i2c z2; have := a_lc z2.toUInt32.toUInt16.toUInt32.toInt32; omega)) (by decide) ?_
      refine W.iload at_184 rfl ?_
      refine W.iconst (3) at_186 (by decide) ?_
      refine W.icmpN at_187 (n_lt (by have := rng32 z0; have := q3; have := am_3 z0; have := q0; have := q1; have := q2; omega)) ?_
      refine W.aload 11 at_190 rfl rfl ?_
      refine W.iconst (2) at_192 (by decide) ?_
      refine W.callV (as := [(vi 2)]) 0 [] at_193 (wq hw 171 rfl) (wq hw 172 rfl) (wq hw 174 rfl) (wq hw 174 rfl) (wq hw 173 rfl) (wq hw 3 rfl) (wq hw 175 rfl) (Hp.exa m1) (c87_charAt hw hs (hx3 := (by have := rng32 z3; have := a_i2c z3; have := a_lc z3.toUInt32.toUInt16.toUInt32.toInt32; omega)) (mp1 := m1) (mp2 := m0)) (by decide) pd_I_C rfl rfl rfl rfl (by decide) (fun v D' h => ?_)
      obtain ⟨rfl, rfl⟩ := h
      show W _ _ _ _ _ _ _ _ _ _ _ _ 196 _ [(vi (lc z3.toUInt32.toUInt16.toUInt32.toInt32))]
      refine W.iload at_196 rfl ?_
      refine W.callS (as := [(vi z3.toUInt32.toUInt16.toUInt32.toInt32)]) 1 [(vi (lc z3.toUInt32.toUInt16.toUInt32.toInt32))] at_198 (wq hw 187 rfl) (wq hw 188 rfl) (wq hw 189 rfl) (wq hw 190 rfl) (c107_expectedm hw hs (hx1 := (by have := rng32 z3; have := a_i2c z3; omega))) (by decide) pd_C_C rfl rfl rfl rfl (by decide) (fun v D' h => ?_)
      obtain ⟨rfl, rfl⟩ := h
      show W _ _ _ _ _ _ _ _ _ _ _ _ 201 _ [(vi (lc z3.toUInt32.toUInt16.toUInt32.toInt32)), (vi (lc z3.toUInt32.toUInt16.toUInt32.toInt32))]
      refine W.icmpY 206 at_201 (y_eq (by have := rng32 z3; have := a_i2c z3; have := a_lc z3.toUInt32.toUInt16.toUInt32.toInt32; omega)) (by decide) ?_
      refine W.iconst (1) at_206 (by decide) ?_
      exact W.ireturn at_207 rfl (Or.inr (Or.inl rfl)) (nw_bool (by decide)) (by decide) rfl
    ·
     have ih3 := f_ne h3
     refine W.iconst (2) at_55 (by decide) ?_
     refine W.newarr 2 (ad := "[C") (ty := .char) at_56 rfl (wq hw 0 rfl) ix2 rfl (by decide) (by decide) (fun a19 => ?_)
     show W _ _ _ _ _ _ _ _ _ _ _ _ 58 _ [(vr a19)]
     refine W.dup at_58 rfl ?_
     refine W.iconst (0) at_59 (by decide) ?_
     refine W.iload at_60 rfl ?_
     refine W.castore (D' := (a19, true, ar "[C" .char [(vi z1.toUInt32.toUInt16.toUInt32.toInt32), (vi 0)]) :: []) 0 0 at_62 rfl ix0 (Nat.le_of_ble_eq_true rfl) (z_narC (by have := rng32 z1; have := a_i2c z1; omega)) rfl ?_
     refine W.dup at_63 rfl ?_
     refine W.iconst (1) at_64 (by decide) ?_
     refine W.iload at_65 rfl ?_
     refine W.castore (D' := (a19, true, ar "[C" .char [(vi z1.toUInt32.toUInt16.toUInt32.toInt32), (vi z2.toUInt32.toUInt16.toUInt32.toInt32)]) :: []) 0 1 at_67 rfl ix1 (Nat.le_of_ble_eq_true rfl) (z_narC (by have := rng32 z2; have := a_i2c z2; omega)) rfl ?_
     refine W.astore (ls' := #[iv z0, iv z1, iv z2, iv z3, iv (z0 &&& (3 : Int32)), iv z1.toUInt32.toUInt16.toUInt32.toInt32, iv z2.toUInt32.toUInt16.toUInt32.toInt32, iv z3.toUInt32.toUInt16.toUInt32.toInt32, rv a19, uu, uu, uu]) at_68 rfl rfl ?_
     refine W.goto 93 at_70 (by decide) ?_
     refine W.new at_93 (wq hw 1 rfl) (wq hw 2 rfl) (wq hw 3 rfl) (laString hw) (by decide) (by decide) (fun a20 => ?_)
     show W _ _ _ _ _ _ _ _ _ _ _ _ 96 _ [(vr a20)]
     refine W.dup at_96 rfl ?_
     refine W.aload 8 at_97 rfl rfl ?_
     refine W.callI (as := [(vr a19)]) 1 [(vr a20)] at_99 rfl (wq hw 4 rfl) (wq hw 5 rfl) (wq hw 3 rfl) (wq hw 6 rfl) (c125_init hw hs (hx1 := (by have := rng32 z1; have := a_i2c z1; omega)) (hx2 := (by have := rng32 z2; have := a_i2c z2; omega)) (mp2 := m0)) (by decide) pd__C_V rfl rfl rfl rfl (by decide) (fun v D' h => ?_)
     rcases h with ⟨a21, h13, h14, rfl, rfl⟩ | ⟨a22, h15, h16, rfl, rfl⟩ | ⟨a23, h17, rfl, rfl⟩
     ·
      have ih13 := t_le h13
      have ih14 := t_le h14
      show W _ _ _ _ _ _ _ _ _ _ _ _ 102 _ [(vr a20)]
      refine W.astore (ls' := #[iv z0, iv z1, iv z2, iv z3, iv (z0 &&& (3 : Int32)), iv z1.toUInt32.toUInt16.toUInt32.toInt32, iv z2.toUInt32.toUInt16.toUInt32.toInt32, iv z3.toUInt32.toUInt16.toUInt32.toInt32, rv a19, rv a20, uu, uu]) at_102 rfl rfl ?_
      refine W.new at_104 (wq hw 22 rfl) (wq hw 23 rfl) (wq hw 24 rfl) (laJdqlLexer_Token hw) (by decide) (by decide) (fun a24 => ?_)
      show W _ _ _ _ _ _ _ _ _ _ _ _ 107 _ [(vr a24)]
      refine W.dup at_107 rfl ?_
      refine W.gets at_108 (wq hw 25 rfl) Via.refl hs.2.2.2.2.2.2.2.1 ?_
      refine W.aload 9 at_111 rfl rfl ?_
      refine W.iconst (0) at_113 (by decide) ?_
      refine W.iload at_114 rfl ?_
      refine W.callI (as := [(vr (kWORD Z)), (vr a20), (vi 0), (vi (z0 &&& (3 : Int32)))]) 1 [(vr a24)] at_116 rfl (wq hw 28 rfl) (wq hw 29 rfl) (wq hw 24 rfl) (wq hw 30 rfl) (c16_init hw hs (hx1 := (by have := rng32 z0; have := q3; have := am_3 z0; have := q0; have := q1; have := q2; omega))) (by decide) pd_Lcom_example_rochester_rochester_JdqlLexer_Kind_Ljava_lang_String_II_V rfl rfl rfl rfl (by decide) (fun v D' h => ?_)
      obtain ⟨rfl, rfl⟩ := h
      show W _ _ _ _ _ _ _ _ _ _ _ _ 119 _ [(vr a24)]
      refine W.astore (ls' := #[iv z0, iv z1, iv z2, iv z3, iv (z0 &&& (3 : Int32)), iv z1.toUInt32.toUInt16.toUInt32.toInt32, iv z2.toUInt32.toUInt16.toUInt32.toInt32, iv z3.toUInt32.toUInt16.toUInt32.toInt32, rv a19, rv a20, rv a24, uu]) at_119 rfl rfl ?_
      refine W.aload 10 at_121 rfl rfl ?_
      refine W.callV (as := []) 0 [] at_123 (wq hw 45 rfl) (wq hw 46 rfl) (wq hw 48 rfl) (wq hw 48 rfl) (wq hw 47 rfl) (wq hw 24 rfl) (wq hw 49 rfl) (Hp.exa m0) (c138_lowerCase hw hs (hx2 := (by have := rng32 z1; have := a_i2c z1; have := q255; omega)) (hx3 := (by have := rng32 z2; have := a_i2c z2; have := q255; omega)) (mp1 := m0) (mp2 := m2) (mp3 := m1)) (by decide) pd__Ljava_lang_String_ rfl rfl rfl rfl (by decide) (fun v D' h => ?_)
      obtain ⟨a25, a26, rfl, rfl⟩ := h
      show W _ _ _ _ _ _ _ _ _ _ _ _ 126 _ [(vr a25)]
      refine W.astore (ls' := #[iv z0, iv z1, iv z2, iv z3, iv (z0 &&& (3 : Int32)), iv z1.toUInt32.toUInt16.toUInt32.toInt32, iv z2.toUInt32.toUInt16.toUInt32.toInt32, iv z3.toUInt32.toUInt16.toUInt32.toInt32, rv a19, rv a20, rv a24, rv a25]) at_126 rfl rfl ?_
      refine W.aload 11 at_128 rfl rfl ?_
      refine W.callV (as := []) 0 [] at_130 (wq hw 142 rfl) (wq hw 54 rfl) (wq hw 56 rfl) (wq hw 56 rfl) (wq hw 55 rfl) (wq hw 3 rfl) (wq hw 57 rfl) (Hp.exa m1) (c139_length hw hs (hvs_p2 := rfl) (mp1 := m1) (mp2 := m0)) (by decide) pd__I rfl rfl rfl rfl (by decide) (fun v D' h => ?_)
      obtain ⟨rfl, rfl⟩ := h
      show W _ _ _ _ _ _ _ _ _ _ _ _ 133 _ [(vi 2)]
      refine W.iload at_133 rfl ?_
      refine W.icmpY 140 at_135 (y_eq (by have := q2; have := rng32 z0; have := q3; have := am_3 z0; have := q0; have := q1; omega)) (by decide) ?_
      refine W.iload at_140 rfl ?_
      refine W.iconst (1) at_142 (by decide) ?_
      refine W.icmpN at_143 (n_lt (by have := rng32 z0; have := q3; have := am_3 z0; have := q1; have := q0; have := q2; omega)) ?_
      refine W.aload 11 at_146 rfl rfl ?_
      refine W.iconst (0) at_148 (by decide) ?_
      refine W.callV (as := [(vi 0)]) 0 [] at_149 (wq hw 171 rfl) (wq hw 172 rfl) (wq hw 174 rfl) (wq hw 174 rfl) (wq hw 173 rfl) (wq hw 3 rfl) (wq hw 175 rfl) (Hp.exa m1) (c155_charAt hw hs (hx1 := (by have := rng32 z1; have := a_i2c z1; have := a_lc z1.toUInt32.toUInt16.toUInt32.toInt32; have := q255; omega)) (mp1 := m1) (mp2 := m0)) (by decide) pd_I_C rfl rfl rfl rfl (by decide) (fun v D' h => ?_)
      obtain ⟨rfl, rfl⟩ := h
      show W _ _ _ _ _ _ _ _ _ _ _ _ 152 _ [(vi (lc z1.toUInt32.toUInt16.toUInt32.toInt32))]
      refine W.iload at_152 rfl ?_
      refine W.callS (as := [(vi z1.toUInt32.toUInt16.toUInt32.toInt32)]) 1 [(vi (lc z1.toUInt32.toUInt16.toUInt32.toInt32))] at_154 (wq hw 187 rfl) (wq hw 188 rfl) (wq hw 189 rfl) (wq hw 190 rfl) (c49_expectedm hw hs (hx1 := (by have := rng32 z1; have := a_i2c z1; have := q255; omega))) (by decide) pd_C_C rfl rfl rfl rfl (by decide) (fun v D' h => ?_)
      obtain ⟨rfl, rfl⟩ := h
      show W _ _ _ _ _ _ _ _ _ _ _ _ 157 _ [(vi (lc z1.toUInt32.toUInt16.toUInt32.toInt32)), (vi (lc z1.toUInt32.toUInt16.toUInt32.toInt32))]
      refine W.icmpY 162 at_157 (y_eq (by have := rng32 z1; have := a_i2c z1; have := a_lc z1.toUInt32.toUInt16.toUInt32.toInt32; have := q255; omega)) (by decide) ?_
      refine W.iload at_162 rfl ?_
      refine W.iconst (2) at_164 (by decide) ?_
      refine W.icmpN at_165 (n_lt (by have := rng32 z0; have := q3; have := am_3 z0; have := q2; have := q0; have := q1; omega)) ?_
      refine W.aload 11 at_168 rfl rfl ?_
      refine W.iconst (1) at_170 (by decide) ?_
      refine W.callV (as := [(vi 1)]) 0 [] at_171 (wq hw 171 rfl) (wq hw 172 rfl) (wq hw 174 rfl) (wq hw 174 rfl) (wq hw 173 rfl) (wq hw 3 rfl) (wq hw 175 rfl) (Hp.exa m1) (c157_charAt hw hs (hx2 := (by have := rng32 z2; have := a_i2c z2; have := a_lc z2.toUInt32.toUInt16.toUInt32.toInt32; have := q255; omega)) (mp1 := m1) (mp2 := m0)) (by decide) pd_I_C rfl rfl rfl rfl (by decide) (fun v D' h => ?_)
      obtain ⟨rfl, rfl⟩ := h
      show W _ _ _ _ _ _ _ _ _ _ _ _ 174 _ [(vi (lc z2.toUInt32.toUInt16.toUInt32.toInt32))]
      refine W.iload at_174 rfl ?_
      refine W.callS (as := [(vi z2.toUInt32.toUInt16.toUInt32.toInt32)]) 1 [(vi (lc z2.toUInt32.toUInt16.toUInt32.toInt32))] at_176 (wq hw 187 rfl) (wq hw 188 rfl) (wq hw 189 rfl) (wq hw 190 rfl) (c49_expectedm hw hs (hx1 := (by have := rng32 z2; have := a_i2c z2; have := q255; omega))) (by decide) pd_C_C rfl rfl rfl rfl (by decide) (fun v D' h => ?_)
      obtain ⟨rfl, rfl⟩ := h
      show W _ _ _ _ _ _ _ _ _ _ _ _ 179 _ [(vi (lc z2.toUInt32.toUInt16.toUInt32.toInt32)), (vi (lc z2.toUInt32.toUInt16.toUInt32.toInt32))]
      refine W.icmpY 184 at_179 (y_eq (by have := rng32 z2; have := a_i2c z2; have := a_lc z2.toUInt32.toUInt16.toUInt32.toInt32; have := q255; omega)) (by decide) ?_
      refine W.iload at_184 rfl ?_
      refine W.iconst (3) at_186 (by decide) ?_
      refine W.icmpY 206 at_187 (y_lt (by have := rng32 z0; have := q3; have := am_3 z0; have := q0; have := q1; have := q2; omega)) (by decide) ?_
      refine W.iconst (1) at_206 (by decide) ?_
      exact W.ireturn at_207 rfl (Or.inr (Or.inl rfl)) (nw_bool (by decide)) (by decide) rfl
     ·
      have ih15 := t_le h15
      have ih16 := f_le h16
      show W _ _ _ _ _ _ _ _ _ _ _ _ 102 _ [(vr a20)]
      refine W.astore (ls' := #[iv z0, iv z1, iv z2, iv z3, iv (z0 &&& (3 : Int32)), iv z1.toUInt32.toUInt16.toUInt32.toInt32, iv z2.toUInt32.toUInt16.toUInt32.toInt32, iv z3.toUInt32.toUInt16.toUInt32.toInt32, rv a19, rv a20, uu, uu]) at_102 rfl rfl ?_
      refine W.new at_104 (wq hw 22 rfl) (wq hw 23 rfl) (wq hw 24 rfl) (laJdqlLexer_Token hw) (by decide) (by decide) (fun a27 => ?_)
      show W _ _ _ _ _ _ _ _ _ _ _ _ 107 _ [(vr a27)]
      refine W.dup at_107 rfl ?_
      refine W.gets at_108 (wq hw 25 rfl) Via.refl hs.2.2.2.2.2.2.2.1 ?_
      refine W.aload 9 at_111 rfl rfl ?_
      refine W.iconst (0) at_113 (by decide) ?_
      refine W.iload at_114 rfl ?_
      refine W.callI (as := [(vr (kWORD Z)), (vr a20), (vi 0), (vi (z0 &&& (3 : Int32)))]) 1 [(vr a27)] at_116 rfl (wq hw 28 rfl) (wq hw 29 rfl) (wq hw 24 rfl) (wq hw 30 rfl) (c16_init hw hs (hx1 := (by have := rng32 z0; have := q3; have := am_3 z0; have := q0; have := q1; have := q2; omega))) (by decide) pd_Lcom_example_rochester_rochester_JdqlLexer_Kind_Ljava_lang_String_II_V rfl rfl rfl rfl (by decide) (fun v D' h => ?_)
      obtain ⟨rfl, rfl⟩ := h
      show W _ _ _ _ _ _ _ _ _ _ _ _ 119 _ [(vr a27)]
      refine W.astore (ls' := #[iv z0, iv z1, iv z2, iv z3, iv (z0 &&& (3 : Int32)), iv z1.toUInt32.toUInt16.toUInt32.toInt32, iv z2.toUInt32.toUInt16.toUInt32.toInt32, iv z3.toUInt32.toUInt16.toUInt32.toInt32, rv a19, rv a20, rv a27, uu]) at_119 rfl rfl ?_
      refine W.aload 10 at_121 rfl rfl ?_
      refine W.callV (as := []) 0 [] at_123 (wq hw 45 rfl) (wq hw 46 rfl) (wq hw 48 rfl) (wq hw 48 rfl) (wq hw 47 rfl) (wq hw 24 rfl) (wq hw 49 rfl) (Hp.exa m0) (c159_lowerCase hw hs (hx2 := (by have := rng32 z1; have := a_i2c z1; have := q255; omega)) (hx3 := (by have := rng32 z2; have := a_i2c z2; have := q255; omega)) (mp1 := m0) (mp2 := m2) (mp3 := m1)) (by decide) pd__Ljava_lang_String_ rfl rfl rfl rfl (by decide) (fun v D' h => ?_)
      obtain ⟨a28, a29, rfl, rfl⟩ := h
      show W _ _ _ _ _ _ _ _ _ _ _ _ 126 _ [(vr a28)]
      refine W.astore (ls' := #[iv z0, iv z1, iv z2, iv z3, iv (z0 &&& (3 : Int32)), iv z1.toUInt32.toUInt16.toUInt32.toInt32, iv z2.toUInt32.toUInt16.toUInt32.toInt32, iv z3.toUInt32.toUInt16.toUInt32.toInt32, rv a19, rv a20, rv a27, rv a28]) at_126 rfl rfl ?_
      refine W.aload 11 at_128 rfl rfl ?_
      refine W.callV (as := []) 0 [] at_130 (wq hw 142 rfl) (wq hw 54 rfl) (wq hw 56 rfl) (wq hw 56 rfl) (wq hw 55 rfl) (wq hw 3 rfl) (wq hw 57 rfl) (Hp.exa m1) (c160_length hw hs (hvs_p2 := rfl) (mp1 := m1) (mp2 := m0)) (by decide) pd__I rfl rfl rfl rfl (by decide) (fun v D' h => ?_)
      obtain ⟨rfl, rfl⟩ := h
      show W _ _ _ _ _ _ _ _ _ _ _ _ 133 _ [(vi 2)]
      refine W.iload at_133 rfl ?_
      refine W.icmpY 140 at_135 (y_eq (by have := q2; have := rng32 z0; have := q3; have := am_3 z0; have := q0; have := q1; omega)) (by decide) ?_
      refine W.iload at_140 rfl ?_
      refine W.iconst (1) at_142 (by decide) ?_
      refine W.icmpN at_143 (n_lt (by have := rng32 z0; have := q3; have := am_3 z0; have := q1; have := q0; have := q2; omega)) ?_
      refine W.aload 11 at_146 rfl rfl ?_
      refine W.iconst (0) at_148 (by decide) ?_
      refine W.callV (as := [(vi 0)]) 0 [] at_149 (wq hw 171 rfl) (wq hw 172 rfl) (wq hw 174 rfl) (wq hw 174 rfl) (wq hw 173 rfl) (wq hw 3 rfl) (wq hw 175 rfl) (Hp.exa m1) (c182_charAt hw hs (hx1 := (by have := rng32 z1; have := a_i2c z1; have := a_lc z1.toUInt32.toUInt16.toUInt32.toInt32; have := q255; omega)) (mp1 := m1) (mp2 := m0)) (by decide) pd_I_C rfl rfl rfl rfl (by decide) (fun v D' h => ?_)
      obtain ⟨rfl, rfl⟩ := h
      show W _ _ _ _ _ _ _ _ _ _ _ _ 152 _ [(vi (lc z1.toUInt32.toUInt16.toUInt32.toInt32))]
      refine W.iload at_152 rfl ?_
      refine W.callS (as := [(vi z1.toUInt32.toUInt16.toUInt32.toInt32)]) 1 [(vi (lc z1.toUInt32.toUInt16.toUInt32.toInt32))] at_154 (wq hw 187 rfl) (wq hw 188 rfl) (wq hw 189 rfl) (wq hw 190 rfl) (c49_expectedm hw hs (hx1 := (by have := rng32 z1; have := a_i2c z1; have := q255; omega))) (by decide) pd_C_C rfl rfl rfl rfl (by decide) (fun v D' h => ?_)
      obtain ⟨rfl, rfl⟩ := h
      show W _ _ _ _ _ _ _ _ _ _ _ _ 157 _ [(vi (lc z1.toUInt32.toUInt16.toUInt32.toInt32)), (vi (lc z1.toUInt32.toUInt16.toUInt32.toInt32))]
      refine W.icmpY 162 at_157 (y_eq (by have := rng32 z1; have := a_i2c z1; have := a_lc z1.toUInt32.toUInt16.toUInt32.toInt32; have := q255; omega)) (by decide) ?_
      refine W.iload at_162 rfl ?_
      refine W.iconst (2) at_164 (by decide) ?_
      refine W.icmpN at_165 (n_lt (by have := rng32 z0; have := q3; have := am_3 z0; have := q2; have := q0; have := q1; omega)) ?_
      refine W.aload 11 at_168 rfl rfl ?_
      refine W.iconst (1) at_170 (by decide) ?_
      refine W.callV (as := [(vi 1)]) 0 [] at_171 (wq hw 171 rfl) (wq hw 172 rfl) (wq hw 174 rfl) (wq hw 174 rfl) (wq hw 173 rfl) (wq hw 3 rfl) (wq hw 175 rfl) (Hp.exa m1) (c185_charAt hw hs (hx2 := (by have := rng32 z2; have := a_i2c z2; have := a_lc z2.toUInt32.toUInt16.toUInt32.toInt32; have := q255; omega)) (mp1 := m1) (mp2 := m0)) (by decide) pd_I_C rfl rfl rfl rfl (by decide) (fun v D' h => ?_)
      obtain ⟨rfl, rfl⟩ := h
      show W _ _ _ _ _ _ _ _ _ _ _ _ 174 _ [(vi (lc z2.toUInt32.toUInt16.toUInt32.toInt32))]
      refine W.iload at_174 rfl ?_
      refine W.callS (as := [(vi z2.toUInt32.toUInt16.toUInt32.toInt32)]) 1 [(vi (lc z2.toUInt32.toUInt16.toUInt32.toInt32))] at_176 (wq hw 187 rfl) (wq hw 188 rfl) (wq hw 189 rfl) (wq hw 190 rfl) (c89_expectedm hw hs (hx1 := (by have := rng32 z2; have := a_i2c z2; have := q255; omega))) (by decide) pd_C_C rfl rfl rfl rfl (by decide) (fun v D' h => ?_)
      obtain ⟨rfl, rfl⟩ := h
      show W _ _ _ _ _ _ _ _ _ _ _ _ 179 _ [(vi (lc z2.toUInt32.toUInt16.toUInt32.toInt32)), (vi (lc z2.toUInt32.toUInt16.toUInt32.toInt32))]
      refine W.icmpY 184 at_179 (y_eq (by have := rng32 z2; have := a_i2c z2; have := a_lc z2.toUInt32.toUInt16.toUInt32.toInt32; have := q255; omega)) (by decide) ?_
      refine W.iload at_184 rfl ?_
      refine W.iconst (3) at_186 (by decide) ?_
      refine W.icmpY 206 at_187 (y_lt (by have := rng32 z0; have := q3; have := am_3 z0; have := q0; have := q1; have := q2; omega)) (by decide) ?_
      refine W.iconst (1) at_206 (by decide) ?_
      exact W.ireturn at_207 rfl (Or.inr (Or.inl rfl)) (nw_bool (by decide)) (by decide) rfl
     ·
      have ih17 := f_le h17
      show W _ _ _ _ _ _ _ _ _ _ _ _ 102 _ [(vr a20)]
      refine W.astore (ls' := #[iv z0, iv z1, iv z2, iv z3, iv (z0 &&& (3 : Int32)), iv z1.toUInt32.toUInt16.toUInt32.toInt32, iv z2.toUInt32.toUInt16.toUInt32.toInt32, iv z3.toUInt32.toUInt16.toUInt32.toInt32, rv a19, rv a20, uu, uu]) at_102 rfl rfl ?_
      refine W.new at_104 (wq hw 22 rfl) (wq hw 23 rfl) (wq hw 24 rfl) (laJdqlLexer_Token hw) (by decide) (by decide) (fun a30 => ?_)
      show W _ _ _ _ _ _ _ _ _ _ _ _ 107 _ [(vr a30)]
      refine W.dup at_107 rfl ?_
      refine W.gets at_108 (wq hw 25 rfl) Via.refl hs.2.2.2.2.2.2.2.1 ?_
      refine W.aload 9 at_111 rfl rfl ?_
      refine W.iconst (0) at_113 (by decide) ?_
      refine W.iload at_114 rfl ?_
      refine W.callI (as := [(vr (kWORD Z)), (vr a20), (vi 0), (vi (z0 &&& (3 : Int32)))]) 1 [(vr a30)] at_116 rfl (wq hw 28 rfl) (wq hw 29 rfl) (wq hw 24 rfl) (wq hw 30 rfl) (c16_init hw hs (hx1 := (by have := rng32 z0; have := q3; have := am_3 z0; have := q0; have := q1; have := q2; omega))) (by decide) pd_Lcom_example_rochester_rochester_JdqlLexer_Kind_Ljava_lang_String_II_V rfl rfl rfl rfl (by decide) (fun v D' h => ?_)
      obtain ⟨rfl, rfl⟩ := h
      show W _ _ _ _ _ _ _ _ _ _ _ _ 119 _ [(vr a30)]
      refine W.astore (ls' := #[iv z0, iv z1, iv z2, iv z3, iv (z0 &&& (3 : Int32)), iv z1.toUInt32.toUInt16.toUInt32.toInt32, iv z2.toUInt32.toUInt16.toUInt32.toInt32, iv z3.toUInt32.toUInt16.toUInt32.toInt32, rv a19, rv a20, rv a30, uu]) at_119 rfl rfl ?_
      refine W.aload 10 at_121 rfl rfl ?_
      refine W.callV (as := []) 0 [] at_123 (wq hw 45 rfl) (wq hw 46 rfl) (wq hw 48 rfl) (wq hw 48 rfl) (wq hw 47 rfl) (wq hw 24 rfl) (wq hw 49 rfl) (Hp.exa m0) (c187_lowerCase hw hs (hx2 := (by have := rng32 z1; have := a_i2c z1; have := q255; omega)) (hx3 := (by have := rng32 z2; have := a_i2c z2; omega)) (mp1 := m0) (mp2 := m2) (mp3 := m1)) (by decide) pd__Ljava_lang_String_ rfl rfl rfl rfl (by decide) (fun v D' h => ?_)
      obtain ⟨a31, a32, rfl, rfl⟩ := h
      show W _ _ _ _ _ _ _ _ _ _ _ _ 126 _ [(vr a31)]
      refine W.astore (ls' := #[iv z0, iv z1, iv z2, iv z3, iv (z0 &&& (3 : Int32)), iv z1.toUInt32.toUInt16.toUInt32.toInt32, iv z2.toUInt32.toUInt16.toUInt32.toInt32, iv z3.toUInt32.toUInt16.toUInt32.toInt32, rv a19, rv a20, rv a30, rv a31]) at_126 rfl rfl ?_
      refine W.aload 11 at_128 rfl rfl ?_
      refine W.callV (as := []) 0 [] at_130 (wq hw 142 rfl) (wq hw 54 rfl) (wq hw 56 rfl) (wq hw 56 rfl) (wq hw 55 rfl) (wq hw 3 rfl) (wq hw 57 rfl) (Hp.exa m1) (c160_length hw hs (hvs_p2 := rfl) (mp1 := m1) (mp2 := m0)) (by decide) pd__I rfl rfl rfl rfl (by decide) (fun v D' h => ?_)
      obtain ⟨rfl, rfl⟩ := h
      show W _ _ _ _ _ _ _ _ _ _ _ _ 133 _ [(vi 2)]
      refine W.iload at_133 rfl ?_
      refine W.icmpY 140 at_135 (y_eq (by have := q2; have := rng32 z0; have := q3; have := am_3 z0; have := q0; have := q1; omega)) (by decide) ?_
      refine W.iload at_140 rfl ?_
      refine W.iconst (1) at_142 (by decide) ?_
      refine W.icmpN at_143 (n_lt (by have := rng32 z0; have := q3; have := am_3 z0; have := q1; have := q0; have := q2; omega)) ?_
      refine W.aload 11 at_146 rfl rfl ?_
      refine W.iconst (0) at_148 (by decide) ?_
      refine W.callV (as := [(vi 0)]) 0 [] at_149 (wq hw 171 rfl) (wq hw 172 rfl) (wq hw 174 rfl) (wq hw 174 rfl) (wq hw 173 rfl) (wq hw 3 rfl) (wq hw 175 rfl) (Hp.exa m1) (c182_charAt hw hs (hx1 := (by have := rng32 z1; have := a_i2c z1; have := a_lc z1.toUInt32.toUInt16.toUInt32.toInt32; have := q255; omega)) (mp1 := m1) (mp2 := m0)) (by decide) pd_I_C rfl rfl rfl rfl (by decide) (fun v D' h => ?_)
      obtain ⟨rfl, rfl⟩ := h
      show W _ _ _ _ _ _ _ _ _ _ _ _ 152 _ [(vi (lc z1.toUInt32.toUInt16.toUInt32.toInt32))]
      refine W.iload at_152 rfl ?_
      refine W.callS (as := [(vi z1.toUInt32.toUInt16.toUInt32.toInt32)]) 1 [(vi (lc z1.toUInt32.toUInt16.toUInt32.toInt32))] at_154 (wq hw 187 rfl) (wq hw 188 rfl) (wq hw 189 rfl) (wq hw 190 rfl) (c89_expectedm hw hs (hx1 := (by have := rng32 z1; have := a_i2c z1; have := q255; omega))) (by decide) pd_C_C rfl rfl rfl rfl (by decide) (fun v D' h => ?_)
      obtain ⟨rfl, rfl⟩ := h
      show W _ _ _ _ _ _ _ _ _ _ _ _ 157 _ [(vi (lc z1.toUInt32.toUInt16.toUInt32.toInt32)), (vi (lc z1.toUInt32.toUInt16.toUInt32.toInt32))]
      refine W.icmpY 162 at_157 (y_eq (by have := rng32 z1; have := a_i2c z1; have := a_lc z1.toUInt32.toUInt16.toUInt32.toInt32; have := q255; omega)) (by decide) ?_
      refine W.iload at_162 rfl ?_
      refine W.iconst (2) at_164 (by decide) ?_
      refine W.icmpN at_165 (n_lt (by have := rng32 z0; have := q3; have := am_3 z0; have := q2; have := q0; have := q1; omega)) ?_
      refine W.aload 11 at_168 rfl rfl ?_
      refine W.iconst (1) at_170 (by decide) ?_
      refine W.callV (as := [(vi 1)]) 0 [] at_171 (wq hw 171 rfl) (wq hw 172 rfl) (wq hw 174 rfl) (wq hw 174 rfl) (wq hw 173 rfl) (wq hw 3 rfl) (wq hw 175 rfl) (Hp.exa m1) (c185_charAt hw hs (hx2 := (by have := rng32 z2; have := a_i2c z2; have := a_lc z2.toUInt32.toUInt16.toUInt32.toInt32; omega)) (mp1 := m1) (mp2 := m0)) (by decide) pd_I_C rfl rfl rfl rfl (by decide) (fun v D' h => ?_)
      obtain ⟨rfl, rfl⟩ := h
      show W _ _ _ _ _ _ _ _ _ _ _ _ 174 _ [(vi (lc z2.toUInt32.toUInt16.toUInt32.toInt32))]
      refine W.iload at_174 rfl ?_
      refine W.callS (as := [(vi z2.toUInt32.toUInt16.toUInt32.toInt32)]) 1 [(vi (lc z2.toUInt32.toUInt16.toUInt32.toInt32))] at_176 (wq hw 187 rfl) (wq hw 188 rfl) (wq hw 189 rfl) (wq hw 190 rfl) (c107_expectedm hw hs (hx1 := (by have := rng32 z2; have := a_i2c z2; omega))) (by decide) pd_C_C rfl rfl rfl rfl (by decide) (fun v D' h => ?_)
      obtain ⟨rfl, rfl⟩ := h
      show W _ _ _ _ _ _ _ _ _ _ _ _ 179 _ [(vi (lc z2.toUInt32.toUInt16.toUInt32.toInt32)), (vi (lc z2.toUInt32.toUInt16.toUInt32.toInt32))]
      refine W.icmpY 184 at_179 (y_eq (by have := rng32 z2; have := a_i2c z2; have := a_lc z2.toUInt32.toUInt16.toUInt32.toInt32; omega)) (by decide) ?_
      refine W.iload at_184 rfl ?_
      refine W.iconst (3) at_186 (by decide) ?_
      refine W.icmpY 206 at_187 (y_lt (by have := rng32 z0; have := q3; have := am_3 z0; have := q0; have := q1; have := q2; omega)) (by decide) ?_
      refine W.iconst (1) at_206 (by decide) ?_
      exact W.ireturn at_207 rfl (Or.inr (Or.inl rfl)) (nw_bool (by decide)) (by decide) rfl
   ·
    have ih2 := f_ne h2
    refine W.iconst (1) at_36 (by decide) ?_
    refine W.newarr 1 (ad := "[C") (ty := .char) at_37 rfl (wq hw 0 rfl) ix1 rfl (by decide) (by decide) (fun a33 => ?_)
    show W _ _ _ _ _ _ _ _ _ _ _ _ 39 _ [(vr a33)]
    refine W.dup at_39 rfl ?_
    refine W.iconst (0) at_40 (by decide) ?_
    refine W.iload at_41 rfl ?_
    refine W.castore (D' := (a33, true, ar "[C" .char [(vi z1.toUInt32.toUInt16.toUInt32.toInt32)]) :: []) 0 0 at_43 rfl ix0 (Nat.le_of_ble_eq_true rfl) (z_narC (by have := rng32 z1; have := a_i2c z1; omega)) rfl ?_
    refine W.astore (ls' := #[iv z0, iv z1, iv z2, iv z3, iv (z0 &&& (3 : Int32)), iv z1.toUInt32.toUInt16.toUInt32.toInt32, iv z2.toUInt32.toUInt16.toUInt32.toInt32, iv z3.toUInt32.toUInt16.toUInt32.toInt32, rv a33, uu, uu, uu]) at_44 rfl rfl ?_
    refine W.goto 93 at_46 (by decide) ?_
    refine W.new at_93 (wq hw 1 rfl) (wq hw 2 rfl) (wq hw 3 rfl) (laString hw) (by decide) (by decide) (fun a34 => ?_)
    show W _ _ _ _ _ _ _ _ _ _ _ _ 96 _ [(vr a34)]
    refine W.dup at_96 rfl ?_
    refine W.aload 8 at_97 rfl rfl ?_
    refine W.callI (as := [(vr a33)]) 1 [(vr a34)] at_99 rfl (wq hw 4 rfl) (wq hw 5 rfl) (wq hw 3 rfl) (wq hw 6 rfl) (c204_init hw hs (hx1 := (by have := rng32 z1; have := a_i2c z1; omega)) (mp2 := m0)) (by decide) pd__C_V rfl rfl rfl rfl (by decide) (fun v D' h => ?_)
    rcases h with ⟨a35, h18, rfl, rfl⟩ | ⟨a36, h19, rfl, rfl⟩
    ·
     have ih18 := t_le h18
     show W _ _ _ _ _ _ _ _ _ _ _ _ 102 _ [(vr a34)]
     refine W.astore (ls' := #[iv z0, iv z1, iv z2, iv z3, iv (z0 &&& (3 : Int32)), iv z1.toUInt32.toUInt16.toUInt32.toInt32, iv z2.toUInt32.toUInt16.toUInt32.toInt32, iv z3.toUInt32.toUInt16.toUInt32.toInt32, rv a33, rv a34, uu, uu]) at_102 rfl rfl ?_
     refine W.new at_104 (wq hw 22 rfl) (wq hw 23 rfl) (wq hw 24 rfl) (laJdqlLexer_Token hw) (by decide) (by decide) (fun a37 => ?_)
     show W _ _ _ _ _ _ _ _ _ _ _ _ 107 _ [(vr a37)]
     refine W.dup at_107 rfl ?_
     refine W.gets at_108 (wq hw 25 rfl) Via.refl hs.2.2.2.2.2.2.2.1 ?_
     refine W.aload 9 at_111 rfl rfl ?_
     refine W.iconst (0) at_113 (by decide) ?_
     refine W.iload at_114 rfl ?_
     refine W.callI (as := [(vr (kWORD Z)), (vr a34), (vi 0), (vi (z0 &&& (3 : Int32)))]) 1 [(vr a37)] at_116 rfl (wq hw 28 rfl) (wq hw 29 rfl) (wq hw 24 rfl) (wq hw 30 rfl) (c16_init hw hs (hx1 := (by have := rng32 z0; have := q3; have := am_3 z0; have := q0; have := q1; omega))) (by decide) pd_Lcom_example_rochester_rochester_JdqlLexer_Kind_Ljava_lang_String_II_V rfl rfl rfl rfl (by decide) (fun v D' h => ?_)
     obtain ⟨rfl, rfl⟩ := h
     show W _ _ _ _ _ _ _ _ _ _ _ _ 119 _ [(vr a37)]
     refine W.astore (ls' := #[iv z0, iv z1, iv z2, iv z3, iv (z0 &&& (3 : Int32)), iv z1.toUInt32.toUInt16.toUInt32.toInt32, iv z2.toUInt32.toUInt16.toUInt32.toInt32, iv z3.toUInt32.toUInt16.toUInt32.toInt32, rv a33, rv a34, rv a37, uu]) at_119 rfl rfl ?_
     refine W.aload 10 at_121 rfl rfl ?_
     refine W.callV (as := []) 0 [] at_123 (wq hw 45 rfl) (wq hw 46 rfl) (wq hw 48 rfl) (wq hw 48 rfl) (wq hw 47 rfl) (wq hw 24 rfl) (wq hw 49 rfl) (Hp.exa m0) (c215_lowerCase hw hs (hx2 := (by have := rng32 z1; have := a_i2c z1; have := q255; omega)) (mp1 := m0) (mp2 := m2) (mp3 := m1)) (by decide) pd__Ljava_lang_String_ rfl rfl rfl rfl (by decide) (fun v D' h => ?_)
     obtain ⟨a38, a39, rfl, rfl⟩ := h
     show W _ _ _ _ _ _ _ _ _ _ _ _ 126 _ [(vr a38)]
     refine W.astore (ls' := #[iv z0, iv z1, iv z2, iv z3, iv (z0 &&& (3 : Int32)), iv z1.toUInt32.toUInt16.toUInt32.toInt32, iv z2.toUInt32.toUInt16.toUInt32.toInt32, iv z3.toUInt32.toUInt16.toUInt32.toInt32, rv a33, rv a34, rv a37, rv a38]) at_126 rfl rfl ?_
     refine W.aload 11 at_128 rfl rfl ?_
     refine W.callV (as := []) 0 [] at_130 (wq hw 142 rfl) (wq hw 54 rfl) (wq hw 56 rfl) (wq hw 56 rfl) (wq hw 55 rfl) (wq hw 3 rfl) (wq hw 57 rfl) (Hp.exa m1) (c216_length hw hs (hvs_p2 := rfl) (mp1 := m1) (mp2 := m0)) (by decide) pd__I rfl rfl rfl rfl (by decide) (fun v D' h => ?_)
     obtain ⟨rfl, rfl⟩ := h
     show W _ _ _ _ _ _ _ _ _ _ _ _ 133 _ [(vi 1)]
     refine W.iload at_133 rfl ?_
     refine W.icmpY 140 at_135 (y_eq (by have := q1; have := rng32 z0; have := q3; have := am_3 z0; have := q0; omega)) (by decide) ?_
     refine W.iload at_140 rfl ?_
     refine W.iconst (1) at_142 (by decide) ?_
     refine W.icmpN at_143 (n_lt (by have := rng32 z0; have := q3; have := am_3 z0; have := q1; have := q0; omega)) ?_
     refine W.aload 11 at_146 rfl rfl ?_
     refine W.iconst (0) at_148 (by decide) ?_
     refine W.callV (as := [(vi 0)]) 0 [] at_149 (wq hw 171 rfl) (wq hw 172 rfl) (wq hw 174 rfl) (wq hw 174 rfl) (wq hw 173 rfl) (wq hw 3 rfl) (wq hw 175 rfl) (Hp.exa m1) (c229_charAt hw hs (hx1 := (by have := rng32 z1; have := a_i2c z1; have := a_lc z1.toUInt32.toUInt16.toUInt32.toInt32; have := q255; omega)) (mp1 := m1) (mp2 := m0)) (by decide) pd_I_C rfl rfl rfl rfl (by decide) (fun v D' h => ?_)
     obtain ⟨rfl, rfl⟩ := h
     show W _ _ _ _ _ _ _ _ _ _ _ _ 152 _ [(vi (lc z1.toUInt32.toUInt16.toUInt32.toInt32))]
     refine W.iload at_152 rfl ?_
     refine W.callS (as := [(vi z1.toUInt32.toUInt16.toUInt32.toInt32)]) 1 [(vi (lc z1.toUInt32.toUInt16.toUInt32.toInt32))] at_154 (wq hw 187 rfl) (wq hw 188 rfl) (wq hw 189 rfl) (wq hw 190 rfl) (c49_expectedm hw hs (hx1 := (by have := rng32 z1; have := a_i2c z1; have := q255; omega))) (by decide) pd_C_C rfl rfl rfl rfl (by decide) (fun v D' h => ?_)
     obtain ⟨rfl, rfl⟩ := h
     show W _ _ _ _ _ _ _ _ _ _ _ _ 157 _ [(vi (lc z1.toUInt32.toUInt16.toUInt32.toInt32)), (vi (lc z1.toUInt32.toUInt16.toUInt32.toInt32))]
     refine W.icmpY 162 at_157 (y_eq (by have := rng32 z1; have := a_i2c z1; have := a_lc z1.toUInt32.toUInt16.toUInt32.toInt32; have := q255; omega)) (by decide) ?_
     refine W.iload at_162 rfl ?_
     refine W.iconst (2) at_164 (by decide) ?_
     refine W.icmpY 184 at_165 (y_lt (by have := rng32 z0; have := q3; have := am_3 z0; have := q2; have := q0; have := q1; omega)) (by decide) ?_
     refine W.iload at_184 rfl ?_
     refine W.iconst (3) at_186 (by decide) ?_
     refine W.icmpY 206 at_187 (y_lt (by have := rng32 z0; have := q3; have := am_3 z0; have := q0; have := q1; omega)) (by decide) ?_
     refine W.iconst (1) at_206 (by decide) ?_
     exact W.ireturn at_207 rfl (Or.inr (Or.inl rfl)) (nw_bool (by decide)) (by decide) rfl
    ·
     have ih19 := f_le h19
     show W _ _ _ _ _ _ _ _ _ _ _ _ 102 _ [(vr a34)]
     refine W.astore (ls' := #[iv z0, iv z1, iv z2, iv z3, iv (z0 &&& (3 : Int32)), iv z1.toUInt32.toUInt16.toUInt32.toInt32, iv z2.toUInt32.toUInt16.toUInt32.toInt32, iv z3.toUInt32.toUInt16.toUInt32.toInt32, rv a33, rv a34, uu, uu]) at_102 rfl rfl ?_
     refine W.new at_104 (wq hw 22 rfl) (wq hw 23 rfl) (wq hw 24 rfl) (laJdqlLexer_Token hw) (by decide) (by decide) (fun a40 => ?_)
     show W _ _ _ _ _ _ _ _ _ _ _ _ 107 _ [(vr a40)]
     refine W.dup at_107 rfl ?_
     refine W.gets at_108 (wq hw 25 rfl) Via.refl hs.2.2.2.2.2.2.2.1 ?_
     refine W.aload 9 at_111 rfl rfl ?_
     refine W.iconst (0) at_113 (by decide) ?_
     refine W.iload at_114 rfl ?_
     refine W.callI (as := [(vr (kWORD Z)), (vr a34), (vi 0), (vi (z0 &&& (3 : Int32)))]) 1 [(vr a40)] at_116 rfl (wq hw 28 rfl) (wq hw 29 rfl) (wq hw 24 rfl) (wq hw 30 rfl) (c16_init hw hs (hx1 := (by have := rng32 z0; have := q3; have := am_3 z0; have := q0; have := q1; omega))) (by decide) pd_Lcom_example_rochester_rochester_JdqlLexer_Kind_Ljava_lang_String_II_V rfl rfl rfl rfl (by decide) (fun v D' h => ?_)
     obtain ⟨rfl, rfl⟩ := h
     show W _ _ _ _ _ _ _ _ _ _ _ _ 119 _ [(vr a40)]
     refine W.astore (ls' := #[iv z0, iv z1, iv z2, iv z3, iv (z0 &&& (3 : Int32)), iv z1.toUInt32.toUInt16.toUInt32.toInt32, iv z2.toUInt32.toUInt16.toUInt32.toInt32, iv z3.toUInt32.toUInt16.toUInt32.toInt32, rv a33, rv a34, rv a40, uu]) at_119 rfl rfl ?_
     refine W.aload 10 at_121 rfl rfl ?_
     refine W.callV (as := []) 0 [] at_123 (wq hw 45 rfl) (wq hw 46 rfl) (wq hw 48 rfl) (wq hw 48 rfl) (wq hw 47 rfl) (wq hw 24 rfl) (wq hw 49 rfl) (Hp.exa m0) (c231_lowerCase hw hs (hx2 := (by have := rng32 z1; have := a_i2c z1; have := q255; omega)) (mp1 := m0) (mp2 := m2) (mp3 := m1)) (by decide) pd__Ljava_lang_String_ rfl rfl rfl rfl (by decide) (fun v D' h => ?_)
     obtain ⟨a41, a42, rfl, rfl⟩ := h
     show W _ _ _ _ _ _ _ _ _ _ _ _ 126 _ [(vr a41)]
     refine W.astore (ls' := #[iv z0, iv z1, iv z2, iv z3, iv (z0 &&& (3 : Int32)), iv z1.toUInt32.toUInt16.toUInt32.toInt32, iv z2.toUInt32.toUInt16.toUInt32.toInt32, iv z3.toUInt32.toUInt16.toUInt32.toInt32, rv a33, rv a34, rv a40, rv a41]) at_126 rfl rfl ?_
     refine W.aload 11 at_128 rfl rfl ?_
     refine W.callV (as := []) 0 [] at_130 (wq hw 142 rfl) (wq hw 54 rfl) (wq hw 56 rfl) (wq hw 56 rfl) (wq hw 55 rfl) (wq hw 3 rfl) (wq hw 57 rfl) (Hp.exa m1) (c232_length hw hs (hvs_p2 := rfl) (mp1 := m1) (mp2 := m0)) (by decide) pd__I rfl rfl rfl rfl (by decide) (fun v D' h => ?_)
     obtain ⟨rfl, rfl⟩ := h
     show W _ _ _ _ _ _ _ _ _ _ _ _ 133 _ [(vi 1)]
     refine W.iload at_133 rfl ?_
     refine W.icmpY 140 at_135 (y_eq (by have := q1; have := rng32 z0; have := q3; have := am_3 z0; have := q0; omega)) (by decide) ?_
     refine W.iload at_140 rfl ?_
     refine W.iconst (1) at_142 (by decide) ?_
     refine W.icmpN at_143 (n_lt (by have := rng32 z0; have := q3; have := am_3 z0; have := q1; have := q0; omega)) ?_
     refine W.aload 11 at_146 rfl rfl ?_
     refine W.iconst (0) at_148 (by decide) ?_
     refine W.callV (as := [(vi 0)]) 0 [] at_149 (wq hw 171 rfl) (wq hw 172 rfl) (wq hw 174 rfl) (wq hw 174 rfl) (wq hw 173 rfl) (wq hw 3 rfl) (wq hw 175 rfl) (Hp.exa m1) (c254_charAt hw hs (hx1 := (by have := rng32 z1; have := a_i2c z1; have := a_lc z1.toUInt32.toUInt16.toUInt32.toInt32; have := q255; omega)) (mp1 := m1) (mp2 := m0)) (by decide) pd_I_C rfl rfl rfl rfl (by decide) (fun v D' h => ?_)
     obtain ⟨rfl, rfl⟩ := h
     show W _ _ _ _ _ _ _ _ _ _ _ _ 152 _ [(vi (lc z1.toUInt32.toUInt16.toUInt32.toInt32))]
     refine W.iload at_152 rfl ?_
     refine W.callS (as := [(vi z1.toUInt32.toUInt16.toUInt32.toInt32)]) 1 [(vi (lc z1.toUInt32.toUInt16.toUInt32.toInt32))] at_154 (wq hw 187 rfl) (wq hw 188 rfl) (wq hw 189 rfl) (wq hw 190 rfl) (c89_expectedm hw hs (hx1 := (by have := rng32 z1; have := a_i2c z1; have := q255; omega))) (by decide) pd_C_C rfl rfl rfl rfl (by decide) (fun v D' h => ?_)
     obtain ⟨rfl, rfl⟩ := h
     show W _ _ _ _ _ _ _ _ _ _ _ _ 157 _ [(vi (lc z1.toUInt32.toUInt16.toUInt32.toInt32)), (vi (lc z1.toUInt32.toUInt16.toUInt32.toInt32))]
     refine W.icmpY 162 at_157 (y_eq (by have := rng32 z1; have := a_i2c z1; have := a_lc z1.toUInt32.toUInt16.toUInt32.toInt32; have := q255; omega)) (by decide) ?_
     refine W.iload at_162 rfl ?_
     refine W.iconst (2) at_164 (by decide) ?_
     refine W.icmpY 184 at_165 (y_lt (by have := rng32 z0; have := q3; have := am_3 z0; have := q2; have := q0; have := q1; omega)) (by decide) ?_
     refine W.iload at_184 rfl ?_
     refine W.iconst (3) at_186 (by decide) ?_
     refine W.icmpY 206 at_187 (y_lt (by have := rng32 z0; have := q3; have := am_3 z0; have := q0; have := q1; omega)) (by decide) ?_
     refine W.iconst (1) at_206 (by decide) ?_
     exact W.ireturn at_207 rfl (Or.inr (Or.inl rfl)) (nw_bool (by decide)) (by decide) rfl
  ·
   have ih1 := f_ne h1
   refine W.iconst (0) at_22 (by decide) ?_
   refine W.newarr 0 (ad := "[C") (ty := .char) at_23 rfl (wq hw 0 rfl) ix0 rfl (by decide) (by decide) (fun a43 => ?_)
   show W _ _ _ _ _ _ _ _ _ _ _ _ 25 _ [(vr a43)]
   refine W.astore (ls' := #[iv z0, iv z1, iv z2, iv z3, iv (z0 &&& (3 : Int32)), iv z1.toUInt32.toUInt16.toUInt32.toInt32, iv z2.toUInt32.toUInt16.toUInt32.toInt32, iv z3.toUInt32.toUInt16.toUInt32.toInt32, rv a43, uu, uu, uu]) at_25 rfl rfl ?_
   refine W.goto 93 at_27 (by decide) ?_
   refine W.new at_93 (wq hw 1 rfl) (wq hw 2 rfl) (wq hw 3 rfl) (laString hw) (by decide) (by decide) (fun a44 => ?_)
   show W _ _ _ _ _ _ _ _ _ _ _ _ 96 _ [(vr a44)]
   refine W.dup at_96 rfl ?_
   refine W.aload 8 at_97 rfl rfl ?_
   refine W.callI (as := [(vr a43)]) 1 [(vr a44)] at_99 rfl (wq hw 4 rfl) (wq hw 5 rfl) (wq hw 3 rfl) (wq hw 6 rfl) (c256_init hw hs (mp2 := m0)) (by decide) pd__C_V rfl rfl rfl rfl (by decide) (fun v D' h => ?_)
   obtain ⟨a45, rfl, rfl⟩ := h
   show W _ _ _ _ _ _ _ _ _ _ _ _ 102 _ [(vr a44)]
   refine W.astore (ls' := #[iv z0, iv z1, iv z2, iv z3, iv (z0 &&& (3 : Int32)), iv z1.toUInt32.toUInt16.toUInt32.toInt32, iv z2.toUInt32.toUInt16.toUInt32.toInt32, iv z3.toUInt32.toUInt16.toUInt32.toInt32, rv a43, rv a44, uu, uu]) at_102 rfl rfl ?_
   refine W.new at_104 (wq hw 22 rfl) (wq hw 23 rfl) (wq hw 24 rfl) (laJdqlLexer_Token hw) (by decide) (by decide) (fun a46 => ?_)
   show W _ _ _ _ _ _ _ _ _ _ _ _ 107 _ [(vr a46)]
   refine W.dup at_107 rfl ?_
   refine W.gets at_108 (wq hw 25 rfl) Via.refl hs.2.2.2.2.2.2.2.1 ?_
   refine W.aload 9 at_111 rfl rfl ?_
   refine W.iconst (0) at_113 (by decide) ?_
   refine W.iload at_114 rfl ?_
   refine W.callI (as := [(vr (kWORD Z)), (vr a44), (vi 0), (vi (z0 &&& (3 : Int32)))]) 1 [(vr a46)] at_116 rfl (wq hw 28 rfl) (wq hw 29 rfl) (wq hw 24 rfl) (wq hw 30 rfl) (c16_init hw hs (hx1 := (by have := rng32 z0; have := q3; have := am_3 z0; have := q0; omega))) (by decide) pd_Lcom_example_rochester_rochester_JdqlLexer_Kind_Ljava_lang_String_II_V rfl rfl rfl rfl (by decide) (fun v D' h => ?_)
   obtain ⟨rfl, rfl⟩ := h
   show W _ _ _ _ _ _ _ _ _ _ _ _ 119 _ [(vr a46)]
   refine W.astore (ls' := #[iv z0, iv z1, iv z2, iv z3, iv (z0 &&& (3 : Int32)), iv z1.toUInt32.toUInt16.toUInt32.toInt32, iv z2.toUInt32.toUInt16.toUInt32.toInt32, iv z3.toUInt32.toUInt16.toUInt32.toInt32, rv a43, rv a44, rv a46, uu]) at_119 rfl rfl ?_
   refine W.aload 10 at_121 rfl rfl ?_
   refine W.callV (as := []) 0 [] at_123 (wq hw 45 rfl) (wq hw 46 rfl) (wq hw 48 rfl) (wq hw 48 rfl) (wq hw 47 rfl) (wq hw 24 rfl) (wq hw 49 rfl) (Hp.exa m0) (c258_lowerCase hw hs (mp1 := m0) (mp2 := m2) (mp3 := m1)) (by decide) pd__Ljava_lang_String_ rfl rfl rfl rfl (by decide) (fun v D' h => ?_)
   obtain ⟨a47, a48, rfl, rfl⟩ := h
   show W _ _ _ _ _ _ _ _ _ _ _ _ 126 _ [(vr a47)]
   refine W.astore (ls' := #[iv z0, iv z1, iv z2, iv z3, iv (z0 &&& (3 : Int32)), iv z1.toUInt32.toUInt16.toUInt32.toInt32, iv z2.toUInt32.toUInt16.toUInt32.toInt32, iv z3.toUInt32.toUInt16.toUInt32.toInt32, rv a43, rv a44, rv a46, rv a47]) at_126 rfl rfl ?_
   refine W.aload 11 at_128 rfl rfl ?_
   refine W.callV (as := []) 0 [] at_130 (wq hw 142 rfl) (wq hw 54 rfl) (wq hw 56 rfl) (wq hw 56 rfl) (wq hw 55 rfl) (wq hw 3 rfl) (wq hw 57 rfl) (Hp.exa m1) (c259_length hw hs (mp1 := m1) (mp2 := m0)) (by decide) pd__I rfl rfl rfl rfl (by decide) (fun v D' h => ?_)
   obtain ⟨rfl, rfl⟩ := h
   show W _ _ _ _ _ _ _ _ _ _ _ _ 133 _ [(vi 0)]
   refine W.iload at_133 rfl ?_
   refine W.icmpY 140 at_135 (y_eq (by have := q0; have := rng32 z0; have := q3; have := am_3 z0; omega)) (by decide) ?_
   refine W.iload at_140 rfl ?_
   refine W.iconst (1) at_142 (by decide) ?_
   refine W.icmpY 162 at_143 (y_lt (by have := rng32 z0; have := q3; have := am_3 z0; have := q1; have := q0; omega)) (by decide) ?_
   refine W.iload at_162 rfl ?_
   refine W.iconst (2) at_164 (by decide) ?_
   refine W.icmpY 184 at_165 (y_lt (by have := rng32 z0; have := q3; have := am_3 z0; have := q2; have := q0; omega)) (by decide) ?_
   refine W.iload at_184 rfl ?_
   refine W.iconst (3) at_186 (by decide) ?_
   refine W.icmpY 206 at_187 (y_lt (by have := rng32 z0; have := q3; have := am_3 z0; have := q0; omega)) (by decide) ?_
   refine W.iconst (1) at_206 (by decide) ?_
   exact W.ireturn at_207 rfl (Or.inr (Or.inl rfl)) (nw_bool (by decide)) (by decide) rfl
set_option maxRecDepth 65536 in
set_option maxHeartbeats 4000000 in
theorem comes_1 {Post : Tables → Env → Array Value → State → Outcome → State → Prop} (hpost : ∀ tb e args s v u, (limb_1_1.after args s (.returned v) u = true ∧ limb_1_2.after args s (.returned v) u = true ∧ True) → Jvm.D.FramedW s (.returned v) u (Jvm.fieldLocs frame_1_writes args s ++ Jvm.arrayLocs frame_1_arrays args s ++ Jvm.staticLocs frame_1_statics s) 32 1216 → Post tb e args s (.returned v) u) :
    ArmFor flags0 classFile x code maxLocals ret World_1 tables_1 room_1 Calls_1 rest_1 Pre_1 Post := by
  intro l hfl _ _ p e ha hc hk s m args below hf hA hF happ hP
  obtain ⟨hcalls, hrest, hpre⟩ := hP
  obtain ⟨-, -, -, hnamed, -, -, -, hat⟩ := (Spec.applies_iff hf).mp happ
  obtain ⟨hg, hn⟩ := and_e (Cond.before_iff.mp (show (Jvm.Cond.and given_1 narrow_1).before args s = true from hpre))
  obtain ⟨hcount, g0⟩ := and_e hg
  obtain ⟨w0, w1, w2, w3, rfl⟩ : ∃ w0 w1 w2 w3 : Value, args = #[w0, w1, w2, w3] := by
    have hs : args.size = 4 := by simpa [Cond.value, given_1] using hcount
    obtain ⟨L⟩ := args
    match L, hs with
    | [w0, w1, w2, w3], _ => exact ⟨w0, w1, w2, w3, rfl⟩
  have hw := fun d (hd : d ∈ tables_1) => atoms_spec (ws := Jvm.Cond.code x code maxLocals ret :: tables_1) hat d (List.mem_cons_of_mem _ hd)
  have hsets := (atoms_of jdkStatics_1 (show (jdkStatics_1.foldr Jvm.Cond.and restOwn_1).before _ s = true from by rw [← rest_1_c_eq]; exact hrest)).1
  obtain ⟨k0, g1⟩ := and_e g0
  obtain ⟨k1, g2⟩ := and_e g1
  obtain ⟨k2, g3⟩ := and_e g2
  have k3 := g3
  obtain ⟨z0, y0⟩ := is_v k0
  obtain rfl : w0 = (.int z0) := Option.some.inj y0
  obtain ⟨z1, y1⟩ := is_v k1
  obtain rfl : w1 = (.int z1) := Option.some.inj y1
  obtain ⟨z2, y2⟩ := is_v k2
  obtain rfl : w2 = (.int z2) := Option.some.inj y2
  obtain ⟨z3, y3⟩ := is_v k3
  obtain rfl : w3 = (.int z3) := Option.some.inj y3
  have n0 := hn
  have hSF : SF s := ⟨sf_int (hsets _ (List.mem_of_getElem? (i := 0) rfl)) (hsets _ (List.mem_of_getElem? (i := 1) rfl)), sf_nz (hsets _ (List.mem_of_getElem? (i := 1) rfl)) (hsets _ (List.mem_of_getElem? (i := 2) rfl)), sf_isref (hsets _ (List.mem_of_getElem? (i := 8) rfl)), sf_ref (hsets _ (List.mem_of_getElem? (i := 7) rfl)) (hsets _ (List.mem_of_getElem? (i := 8) rfl)), sf_const (hsets _ (List.mem_of_getElem? (i := 11) rfl)) (hsets _ (List.mem_of_getElem? (i := 12) rfl)), sf_const (hsets _ (List.mem_of_getElem? (i := 14) rfl)) (hsets _ (List.mem_of_getElem? (i := 15) rfl)), sf_const (hsets _ (List.mem_of_getElem? (i := 17) rfl)) (hsets _ (List.mem_of_getElem? (i := 18) rfl)), sf_enum (wq hw 26 rfl) (wq hw 27 rfl) n0, trivial⟩
  have hE : EW s _ EL.2 := (EW.cons (wq hw 14 rfl) (by decide) EW.nil)
  have hCH : CHv s EL.2 s.vm s.heap := CHv.start hE (fun q hq => hcalls.1 q hq) (hsets _ (List.mem_of_getElem? (i := 2) rfl)) (wq hw 15 rfl) (wq hw 2 rfl)
  have hHp := Hp.start hCH
  obtain ⟨nn, o, q1, q2, q3, v, L, rfl, N, ⟨D', -, rfl⟩, hq, hWH⟩ := lawW (Z := s) hw hSF z0 z1 z2 z3 ⟨⟨_, hE⟩, by decide⟩ l tables_1 p e ha hc hk s m _ below hf ((Spec.applies_iff_loose hf).mp happ).1 ⟨rfl, State.Warmed39.refl s, hHp⟩ trivial
  exact ⟨nn, _, q1, q2, q3, hpost _ _ _ _ _ _ ⟨Cond.after_iff.mpr rfl, Cond.after_iff.mpr (eq_i res_at (Term.int_eval (1)) rfl), trivial⟩ ⟨hq.1, hq.2.1, hq.2.2.1, (hq.2.2.2.sift fun y hy => Or.inr (N y hy)).mono (by decide) (by decide)⟩⟩
theorem main_1_1 : Claimed_1_1 := comes_1 fun _ _ _ _ _ _ h hF => ⟨h.1, hF⟩
theorem main_1_2 : Claimed_1_2 := comes_1 fun _ _ _ _ _ _ h hF => ⟨h.2.1, hF⟩
end Jvm.Pilot.@@N@@
namespace Jvm.Pilot.@@N@@
open Jvm Jvm.ClassFile Sem Op Lib Jvm.Free Jvm.Stand Jvm.Pilot.@@N@@.Jvm.D
/-! MADE BY PROGRAM (witnessworld.py) out of the Statement's table words and the real class files: 27 classes; the members and pool entries that the words name. The judged class is class 1, her method 1. -/
namespace start1
open Jvm.ClassFile
def u (s : String) : CpInfo := .utf8 (stringToUtf16 s)
/-- a pool by its gaps: so many unusable entries, then the entry; so many at the end -/
def gap : Nat → List CpInfo → List CpInfo
  | 0, r => r
  | n + 1, r => .unusable :: gap n r
def poolList (es : List (Nat × CpInfo)) (last : Nat) : List CpInfo := es.foldr (fun e r => gap e.1 (e.2 :: r)) (gap last [])
def pool (es : List (Nat × CpInfo)) (last : Nat) : Array CpInfo := ⟨poolList es last⟩
def fileOf (pool : Array CpInfo) (this : Nat) (attrs : Array Attribute := #[]) (ms : Array MethodInfo := #[]) (fl : Nat := 33) (sup : Nat := 0) (ifs : Array Nat := #[]) (fds : Array FieldInfo := #[]) : ClassFile where
  minorVersion := 0
  majorVersion := 65
  constantPool := pool
  accessFlags := fl
  thisClass := this
  superClass := sup
  interfaces := ifs
  fields := fds
  methods := ms
  attributes := attrs
def plain (name : String) (sup : Option ClassId) : Class where
  name := name
  kind := .ordinary
  loader := none
  accessFlags := 33
  super := sup
  interfaces := #[]
  cf := none
  fields := #[]
  methods := #[]
  instanceTypes := #[]
  staticTypes := #[]
  resolved := #[]
  callSites := []
  init := .initialized
  statics := none
  mirror := none

def pool0 : Array CpInfo := pool [(5, u "<init>"), (0, u "()V"), (1, .class_ 10), (1, u "java/lang/Object"), (85, u "clone"), (0, u "()Ljava/lang/Object;")] 26

def k0c0 : Code := { maxStack := 0, maxLocals := 1, code := object_method_1_code, exceptionTable := #[], attributes := #[] }
def k0m0 : Method := { name := "<init>", desc := "()V", sig := { parameters := [], returnType := none }, accessFlags := 1, code := some k0c0 }
def k0m1 : Method := { name := "clone", desc := "()Ljava/lang/Object;", sig := { parameters := [], returnType := some (.object "java/lang/Object") }, accessFlags := 260, code := none }
/-- java/lang/Object -/
def k0 : Class := { plain "java/lang/Object" none with
  accessFlags := 33
  interfaces := #[]
  cf := some (fileOf pool0 8 #[] #[{ accessFlags := 1, nameIndex := 5, descriptorIndex := 6, attributes := #[] }, { accessFlags := 260, nameIndex := 96, descriptorIndex := 97, attributes := #[] }] 33 0 #[] #[])
  fields := #[]
  methods := #[k0m0, k0m1]
  instanceTypes := #[]
  staticTypes := #[]
  resolved := Array.replicate 124 none
  statics := none }

def pool1 : Array CpInfo := pool [(2, .class_ 4), (1, u "java/lang/Object"), (0, u "<init>"), (0, u "()V"), (0, .class_ 8), (0, u "java/lang/String"), (0, .methodref 7 10), (0, .nameAndType 5 11), (0, u "([C)V"), (0, .class_ 13), (0, u "com/example/rochester/rochester/JdqlLexer$Token"), (0, .fieldref 15 16), (0, .class_ 17), (0, .nameAndType 18 19), (0, u "com/example/rochester/rochester/JdqlLexer$Kind"), (0, u "WORD"), (0, u "Lcom/example/rochester/rochester/JdqlLexer$Kind;"), (0, .methodref 12 21), (0, .nameAndType 5 22), (0, u "(Lcom/example/rochester/rochester/JdqlLexer$Kind;Ljava/lang/String;II)V"), (0, .methodref 12 24), (0, .nameAndType 25 26), (0, u "lowerCase"), (0, u "()Ljava/lang/String;"), (0, .methodref 7 28), (0, .nameAndType 29 30), (0, u "length"), (0, u "()I"), (0, .methodref 7 32), (0, .nameAndType 33 34), (0, u "charAt"), (0, u "(I)C"), (0, .methodref 36 37), (0, .class_ 38), (0, .nameAndType 39 40), (0, u "com/example/rochester/rochester/TokenLowerCasePinLaw"), (0, u "expected"), (0, u "(C)C"), (2, u "law"), (0, u "(IIII)Z")] 10

def k1m0 : Method := { name := "<init>", desc := "()V", sig := { parameters := [], returnType := none }, accessFlags := 1, code := none }
def k1c1 : Code := { maxStack := 6, maxLocals := 12, code := code, exceptionTable := #[], attributes := #[] }
def k1m1 : Method := { name := "law", desc := "(IIII)Z", sig := { parameters := [.int, .int, .int, .int], returnType := some .boolean }, accessFlags := 9, code := some k1c1 }
def k1c2 : Code := { maxStack := 2, maxLocals := 2, code := method_3_code, exceptionTable := #[], attributes := #[] }
def k1m2 : Method := { name := "expected", desc := "(C)C", sig := { parameters := [.char], returnType := some .char }, accessFlags := 10, code := some k1c2 }
/-- com/example/rochester/rochester/TokenLowerCasePinLaw -/
def k1 : Class := { plain "com/example/rochester/rochester/TokenLowerCasePinLaw" (some 0) with
  accessFlags := 49
  interfaces := #[]
  cf := some (fileOf pool1 36 #[] #[{ accessFlags := 1, nameIndex := 5, descriptorIndex := 6, attributes := #[] }, { accessFlags := 9, nameIndex := 43, descriptorIndex := 44, attributes := #[] }, { accessFlags := 10, nameIndex := 39, descriptorIndex := 40, attributes := #[] }] 49 2 #[] #[])
  fields := #[]
  methods := #[k1m0, k1m1, k1m2]
  instanceTypes := #[]
  staticTypes := #[]
  resolved := Array.replicate 55 none
  statics := none }

def pool2 : Array CpInfo := pool [(1, .class_ 2), (0, u "java/io/Serializable"), (0, .class_ 4), (0, u "java/lang/Object")] 2

/-- java/io/Serializable -/
def k2 : Class := { plain "java/io/Serializable" (some 0) with
  accessFlags := 1537
  interfaces := #[]
  cf := some (fileOf pool2 1 #[] #[] 1537 3 #[] #[])
  fields := #[]
  methods := #[]
  instanceTypes := #[]
  staticTypes := #[]
  resolved := Array.replicate 7 none
  statics := none }

def pool3 : Array CpInfo := pool [(1, .class_ 2), (0, u "java/lang/Comparable"), (0, .class_ 4), (0, u "java/lang/Object")] 7

/-- java/lang/Comparable -/
def k3 : Class := { plain "java/lang/Comparable" (some 0) with
  accessFlags := 1537
  interfaces := #[]
  cf := some (fileOf pool3 1 #[] #[] 1537 3 #[] #[])
  fields := #[]
  methods := #[]
  instanceTypes := #[]
  staticTypes := #[]
  resolved := Array.replicate 12 none
  statics := none }

def pool4 : Array CpInfo := pool [(2, .class_ 4), (1, u "java/lang/CharSequence"), (42, .class_ 48), (0, u "java/lang/CharSequence$1CodePointIterator"), (10, .class_ 60), (0, u "java/lang/CharSequence$1CharIterator"), (5, .class_ 67), (0, u "java/lang/Object")] 63

/-- java/lang/CharSequence -/
def k4 : Class := { plain "java/lang/CharSequence" (some 0) with
  accessFlags := 1537
  interfaces := #[]
  cf := some (fileOf pool4 2 #[.nestMembers #[47, 59]] #[] 1537 66 #[] #[])
  fields := #[]
  methods := #[]
  instanceTypes := #[]
  staticTypes := #[]
  resolved := Array.replicate 131 none
  statics := none }

def pool5 : Array CpInfo := pool [(1, .class_ 2), (0, u "java/lang/constant/Constable"), (0, .class_ 4), (0, u "java/lang/Object")] 6

/-- java/lang/constant/Constable -/
def k5 : Class := { plain "java/lang/constant/Constable" (some 0) with
  accessFlags := 1537
  interfaces := #[]
  cf := some (fileOf pool5 1 #[] #[] 1537 3 #[] #[])
  fields := #[]
  methods := #[]
  instanceTypes := #[]
  staticTypes := #[]
  resolved := Array.replicate 11 none
  statics := none }

def pool6 : Array CpInfo := pool [(1, .class_ 2), (0, u "java/lang/constant/ConstantDesc"), (0, .class_ 4), (0, u "java/lang/Object")] 32

/-- java/lang/constant/ConstantDesc -/
def k6 : Class := { plain "java/lang/constant/ConstantDesc" (some 0) with
  accessFlags := 1537
  interfaces := #[]
  cf := some (fileOf pool6 1 #[] #[] 1537 3 #[] #[])
  fields := #[]
  methods := #[]
  instanceTypes := #[]
  staticTypes := #[]
  resolved := Array.replicate 37 none
  statics := none }

def pool7 : Array CpInfo := pool [(1, .methodref 2 3), (0, .class_ 4), (0, .nameAndType 5 6), (0, u "java/lang/Object"), (0, u "<init>"), (0, u "()V"), (0, .string 8), (0, u ""), (0, .fieldref 10 11), (0, .class_ 12), (0, .nameAndType 13 14), (0, u "java/lang/String"), (0, u "value"), (0, u "[B"), (0, .fieldref 10 16), (0, .nameAndType 17 18), (0, u "coder"), (0, u "B"), (2, u "hash"), (0, u "I"), (2, u "hashIsZero"), (0, u "Z"), (0, .methodref 10 28), (0, .nameAndType 5 29), (0, u "([CIILjava/lang/Void;)V"), (6, u "checkBoundsOffCount"), (0, u "(III)I"), (0, .fieldref 10 39), (0, .nameAndType 40 26), (0, u "COMPACT_STRINGS"), (1, .class_ 44), (1, u "java/lang/StringUTF16"), (0, u "compress"), (1, .methodref 42 48), (0, .nameAndType 49 50), (0, u "coderFromArrayLen"), (0, u "([BI)B"), (3, .methodref 55 56), (0, .class_ 57), (0, .nameAndType 58 59), (0, u "java/util/Arrays"), (0, u "copyOfRange"), (0, u "([BII)[B"), (47, .class_ 109), (1, u "java/lang/StringLatin1"), (32, u "()Z"), (34, .methodref 42 178), (0, .nameAndType 45 179), (0, u "([CII)[B"), (119, .methodref 107 300), (0, .nameAndType 301 302), (0, u "toChars"), (0, u "([B)[C"), (0, .methodref 42 300), (30, u "()I"), (0, .methodref 10 336), (0, .nameAndType 17 337), (0, u "()B"), (2, u "()[B"), (22, u "([BI)C"), (27, u "(II)V"), (35, u "(I)C"), (61, .methodref 10 490), (0, .nameAndType 5 491), (0, u "(Ljava/lang/AbstractStringBuilder;Ljava/lang/Void;)V"), (0, .methodref 10 493), (0, .nameAndType 494 142), (0, u "isLatin1"), (0, .methodref 107 496), (0, .nameAndType 497 363), (0, u "charAt"), (0, .methodref 42 496), (2, u "checkIndex"), (4, .nameAndType 507 334), (0, u "length"), (41, .methodref 550 506), (0, .class_ 551), (0, u "java/lang/AbstractStringBuilder"), (0, .methodref 550 553), (0, .nameAndType 554 340), (0, u "getValue"), (20, .class_ 576), (0, u "java/lang/CharSequence"), (22, u "CASE_INSENSITIVE_ORDER"), (0, u "Ljava/util/Comparator;"), (354, u "toCharArray"), (0, u "()[C"), (53, u "([C)V"), (36, .methodref 550 493), (0, .fieldref 550 1049), (0, .nameAndType 1050 26), (0, u "maybeLatin1"), (2, .fieldref 1054 1055), (0, .class_ 1056), (0, .nameAndType 1057 1058), (0, u "jdk/internal/util/Preconditions"), (0, u "SIOOBE_FORMATTER"), (0, u "Ljava/util/function/BiFunction;"), (0, .methodref 1054 1060), (0, .nameAndType 501 1061), (0, u "(IILjava/util/function/BiFunction;)I"), (2, u "(IIILjava/util/function/BiFunction;)I"), (0, .methodref 1054 1066), (0, .nameAndType 1067 1064), (0, u "checkFromIndexSize"), (33, u "serialPersistentFields"), (0, u "[Ljava/io/ObjectStreamField;"), (0, .class_ 1104), (0, u "java/lang/String$CaseInsensitiveComparator"), (1, .class_ 1107), (0, u "java/io/Serializable"), (0, .class_ 1109), (0, u "java/lang/Comparable"), (0, .class_ 1111), (0, u "java/lang/constant/Constable"), (0, .class_ 1113), (0, u "java/lang/constant/ConstantDesc"), (2, u "serialVersionUID"), (0, u "J"), (3, u "REPL"), (0, u "C"), (2, u "LATIN1"), (1, u "UTF16"), (105, u "(Ljava/lang/StringBuilder;)V")] 217

def k7m0 : Method := { name := "<init>", desc := "()V", sig := { parameters := [], returnType := none }, accessFlags := 1, code := none }
def k7c1 : Code := { maxStack := 5, maxLocals := 2, code := jdk_42_method_3_code, exceptionTable := #[], attributes := #[] }
def k7m1 : Method := { name := "<init>", desc := "([C)V", sig := { parameters := [(.array .char)], returnType := none }, accessFlags := 1, code := some k7c1 }
def k7c2 : Code := { maxStack := 3, maxLocals := 2, code := jdk_42_method_53_code, exceptionTable := #[], attributes := #[] }
def k7m2 : Method := { name := "<init>", desc := "(Ljava/lang/StringBuilder;)V", sig := { parameters := [(.object "java/lang/StringBuilder")], returnType := none }, accessFlags := 1, code := some k7c2 }
def k7c3 : Code := { maxStack := 2, maxLocals := 1, code := jdk_42_method_54_code, exceptionTable := #[], attributes := #[] }
def k7m3 : Method := { name := "length", desc := "()I", sig := { parameters := [], returnType := some .int }, accessFlags := 1, code := some k7c3 }
def k7c4 : Code := { maxStack := 2, maxLocals := 2, code := jdk_42_method_56_code, exceptionTable := #[], attributes := #[] }
def k7m4 : Method := { name := "charAt", desc := "(I)C", sig := { parameters := [.int], returnType := some .char }, accessFlags := 1, code := some k7c4 }
def k7c5 : Code := { maxStack := 1, maxLocals := 1, code := jdk_42_method_129_code, exceptionTable := #[], attributes := #[] }
def k7m5 : Method := { name := "toCharArray", desc := "()[C", sig := { parameters := [], returnType := some (.array .char) }, accessFlags := 1, code := some k7c5 }
def k7c6 : Code := { maxStack := 4, maxLocals := 6, code := jdk_42_method_149_code, exceptionTable := #[], attributes := #[] }
def k7m6 : Method := { name := "<init>", desc := "([CIILjava/lang/Void;)V", sig := { parameters := [(.array .char), .int, .int, (.object "java/lang/Void")], returnType := none }, accessFlags := 2, code := some k7c6 }
def k7c7 : Code := { maxStack := 5, maxLocals := 5, code := jdk_42_method_150_code, exceptionTable := #[], attributes := #[] }
def k7m7 : Method := { name := "<init>", desc := "(Ljava/lang/AbstractStringBuilder;Ljava/lang/Void;)V", sig := { parameters := [(.object "java/lang/AbstractStringBuilder"), (.object "java/lang/Void")], returnType := none }, accessFlags := 0, code := some k7c7 }
def k7c8 : Code := { maxStack := 1, maxLocals := 1, code := jdk_42_method_152_code, exceptionTable := #[], attributes := #[] }
def k7m8 : Method := { name := "coder", desc := "()B", sig := { parameters := [], returnType := some .byte }, accessFlags := 0, code := some k7c8 }
def k7c9 : Code := { maxStack := 1, maxLocals := 1, code := jdk_42_method_154_code, exceptionTable := #[], attributes := #[] }
def k7m9 : Method := { name := "isLatin1", desc := "()Z", sig := { parameters := [], returnType := some .boolean }, accessFlags := 0, code := some k7c9 }
def k7c10 : Code := { maxStack := 3, maxLocals := 2, code := jdk_42_method_155_code, exceptionTable := #[], attributes := #[] }
def k7m10 : Method := { name := "checkIndex", desc := "(II)V", sig := { parameters := [.int, .int], returnType := none }, accessFlags := 8, code := some k7c10 }
def k7c11 : Code := { maxStack := 4, maxLocals := 3, code := jdk_42_method_157_code, exceptionTable := #[], attributes := #[] }
def k7m11 : Method := { name := "checkBoundsOffCount", desc := "(III)I", sig := { parameters := [.int, .int, .int], returnType := some .int }, accessFlags := 8, code := some k7c11 }
/-- java/lang/String -/
def k7 : Class := { plain "java/lang/String" (some 0) with
  accessFlags := 49
  interfaces := #[2, 3, 4, 5, 6]
  cf := some (fileOf pool7 10 #[.nestMembers #[1103]] #[{ accessFlags := 1, nameIndex := 5, descriptorIndex := 6, attributes := #[] }, { accessFlags := 1, nameIndex := 5, descriptorIndex := 1010, attributes := #[] }, { accessFlags := 1, nameIndex := 5, descriptorIndex := 1233, attributes := #[] }, { accessFlags := 1, nameIndex := 507, descriptorIndex := 334, attributes := #[] }, { accessFlags := 1, nameIndex := 497, descriptorIndex := 427, attributes := #[] }, { accessFlags := 1, nameIndex := 955, descriptorIndex := 956, attributes := #[] }, { accessFlags := 2, nameIndex := 5, descriptorIndex := 29, attributes := #[] }, { accessFlags := 0, nameIndex := 5, descriptorIndex := 491, attributes := #[] }, { accessFlags := 0, nameIndex := 17, descriptorIndex := 337, attributes := #[] }, { accessFlags := 0, nameIndex := 494, descriptorIndex := 142, attributes := #[] }, { accessFlags := 8, nameIndex := 501, descriptorIndex := 391, attributes := #[] }, { accessFlags := 8, nameIndex := 36, descriptorIndex := 37, attributes := #[] }] 49 2 #[1106, 1108, 575, 1110, 1112] #[{ accessFlags := 18, nameIndex := 13, descriptorIndex := 14, attributes := #[] }, { accessFlags := 18, nameIndex := 17, descriptorIndex := 18, attributes := #[] }, { accessFlags := 2, nameIndex := 21, descriptorIndex := 22, attributes := #[] }, { accessFlags := 2, nameIndex := 25, descriptorIndex := 26, attributes := #[] }, { accessFlags := 26, nameIndex := 1116, descriptorIndex := 1117, attributes := #[] }, { accessFlags := 24, nameIndex := 40, descriptorIndex := 26, attributes := #[] }, { accessFlags := 26, nameIndex := 1101, descriptorIndex := 1102, attributes := #[] }, { accessFlags := 26, nameIndex := 1121, descriptorIndex := 1122, attributes := #[] }, { accessFlags := 25, nameIndex := 599, descriptorIndex := 600, attributes := #[] }, { accessFlags := 24, nameIndex := 1125, descriptorIndex := 18, attributes := #[] }, { accessFlags := 24, nameIndex := 1127, descriptorIndex := 18, attributes := #[] }])
  fields := #[{ name := "value", type := (.array .byte), accessFlags := 18, slot := 0, constantValue := 0 }, { name := "coder", type := .byte, accessFlags := 18, slot := 1, constantValue := 0 }, { name := "hash", type := .int, accessFlags := 2, slot := 2, constantValue := 0 }, { name := "hashIsZero", type := .boolean, accessFlags := 2, slot := 3, constantValue := 0 }, { name := "serialVersionUID", type := .long, accessFlags := 26, slot := 0, constantValue := 0 }, { name := "COMPACT_STRINGS", type := .boolean, accessFlags := 24, slot := 1, constantValue := 0 }, { name := "serialPersistentFields", type := (.array (.object "java/io/ObjectStreamField")), accessFlags := 26, slot := 2, constantValue := 0 }, { name := "REPL", type := .char, accessFlags := 26, slot := 3, constantValue := 0 }, { name := "CASE_INSENSITIVE_ORDER", type := (.object "java/util/Comparator"), accessFlags := 25, slot := 4, constantValue := 0 }, { name := "LATIN1", type := .byte, accessFlags := 24, slot := 5, constantValue := 0 }, { name := "UTF16", type := .byte, accessFlags := 24, slot := 6, constantValue := 0 }]
  methods := #[k7m0, k7m1, k7m2, k7m3, k7m4, k7m5, k7m6, k7m7, k7m8, k7m9, k7m10, k7m11]
  instanceTypes := #[(.array .byte), .byte, .int, .boolean]
  staticTypes := #[.long, .boolean, (.array (.object "java/io/ObjectStreamField")), .char, (.object "java/util/Comparator"), .byte, .byte]
  resolved := Array.replicate 1451 none
  statics := some 0 }

def pool8 : Array CpInfo := pool [(1, .methodref 2 3), (0, .class_ 4), (0, .nameAndType 5 6), (0, u "java/lang/Object"), (0, u "<init>"), (0, u "()V"), (0, .class_ 8), (0, u "java/lang/Record")] 13

def k8c0 : Code := { maxStack := 1, maxLocals := 1, code := jdk_30_method_1_code, exceptionTable := #[], attributes := #[] }
def k8m0 : Method := { name := "<init>", desc := "()V", sig := { parameters := [], returnType := none }, accessFlags := 4, code := some k8c0 }
/-- java/lang/Record -/
def k8 : Class := { plain "java/lang/Record" (some 0) with
  accessFlags := 1057
  interfaces := #[]
  cf := some (fileOf pool8 7 #[] #[{ accessFlags := 4, nameIndex := 5, descriptorIndex := 6, attributes := #[] }] 1057 2 #[] #[])
  fields := #[]
  methods := #[k8m0]
  instanceTypes := #[]
  staticTypes := #[]
  resolved := Array.replicate 22 none
  statics := none }

def pool9 : Array CpInfo := pool [(1, .methodref 2 3), (0, .class_ 4), (0, .nameAndType 5 6), (0, u "java/lang/Record"), (0, u "<init>"), (0, u "()V"), (0, .fieldref 8 9), (0, .class_ 10), (0, .nameAndType 11 12), (0, u "com/example/rochester/rochester/JdqlLexer$Token"), (0, u "kind"), (0, u "Lcom/example/rochester/rochester/JdqlLexer$Kind;"), (0, .fieldref 8 14), (0, .nameAndType 15 16), (0, u "text"), (0, u "Ljava/lang/String;"), (0, .fieldref 8 18), (0, .nameAndType 19 20), (0, u "start"), (0, u "I"), (0, .fieldref 8 22), (0, .nameAndType 23 20), (0, u "end"), (7, u "lowerCase"), (0, u "()Ljava/lang/String;"), (1, .class_ 36), (1, u "java/lang/String"), (11, .class_ 49), (0, u "java/lang/StringBuilder"), (0, .methodref 34 51), (0, .nameAndType 52 53), (0, u "length"), (0, u "()I"), (0, .methodref 48 55), (0, .nameAndType 5 56), (0, u "(I)V"), (0, .methodref 34 58), (0, .nameAndType 59 60), (0, u "toCharArray"), (0, u "()[C"), (0, .methodref 48 62), (0, .nameAndType 63 64), (0, u "append"), (0, u "(C)Ljava/lang/StringBuilder;"), (0, .methodref 48 66), (0, .nameAndType 67 32), (0, u "toString"), (25, u "(Lcom/example/rochester/rochester/JdqlLexer$Kind;Ljava/lang/String;II)V"), (16, .class_ 111), (0, u "com/example/rochester/rochester/JdqlLexer")] 31

def k9c0 : Code := { maxStack := 2, maxLocals := 5, code := prog_12_method_1_code, exceptionTable := #[], attributes := #[] }
def k9m0 : Method := { name := "<init>", desc := "(Lcom/example/rochester/rochester/JdqlLexer$Kind;Ljava/lang/String;II)V", sig := { parameters := [(.object "com/example/rochester/rochester/JdqlLexer$Kind"), (.object "java/lang/String"), .int, .int], returnType := none }, accessFlags := 0, code := some k9c0 }
def k9c1 : Code := { maxStack := 3, maxLocals := 6, code := prog_12_method_5_code, exceptionTable := #[], attributes := #[] }
def k9m1 : Method := { name := "lowerCase", desc := "()Ljava/lang/String;", sig := { parameters := [], returnType := some (.object "java/lang/String") }, accessFlags := 0, code := some k9c1 }
/-- com/example/rochester/rochester/JdqlLexer$Token -/
def k9 : Class := { plain "com/example/rochester/rochester/JdqlLexer$Token" (some 8) with
  accessFlags := 48
  interfaces := #[]
  cf := some (fileOf pool9 8 #[.nestHost 110] #[{ accessFlags := 0, nameIndex := 5, descriptorIndex := 93, attributes := #[] }, { accessFlags := 0, nameIndex := 31, descriptorIndex := 32, attributes := #[] }] 48 2 #[] #[{ accessFlags := 18, nameIndex := 11, descriptorIndex := 12, attributes := #[] }, { accessFlags := 18, nameIndex := 15, descriptorIndex := 16, attributes := #[] }, { accessFlags := 18, nameIndex := 19, descriptorIndex := 20, attributes := #[] }, { accessFlags := 18, nameIndex := 23, descriptorIndex := 20, attributes := #[] }])
  fields := #[{ name := "kind", type := (.object "com/example/rochester/rochester/JdqlLexer$Kind"), accessFlags := 18, slot := 0, constantValue := 0 }, { name := "text", type := (.object "java/lang/String"), accessFlags := 18, slot := 1, constantValue := 0 }, { name := "start", type := .int, accessFlags := 18, slot := 2, constantValue := 0 }, { name := "end", type := .int, accessFlags := 18, slot := 3, constantValue := 0 }]
  methods := #[k9m0, k9m1]
  instanceTypes := #[(.object "com/example/rochester/rochester/JdqlLexer$Kind"), (.object "java/lang/String"), .int, .int]
  staticTypes := #[]
  resolved := Array.replicate 143 none
  statics := none }

def pool10 : Array CpInfo := pool [(2, .class_ 4), (1, u "java/lang/Enum"), (0, u "name"), (0, u "Ljava/lang/String;"), (2, u "ordinal"), (0, u "I"), (1, .class_ 14), (1, u "java/lang/Object"), (4, u "hash"), (86, .class_ 108), (1, u "java/lang/Enum$EnumDesc"), (2, .class_ 112), (0, u "java/lang/constant/Constable"), (0, .class_ 114), (0, u "java/lang/Comparable"), (0, .class_ 116), (0, u "java/io/Serializable")] 87

/-- java/lang/Enum -/
def k10 : Class := { plain "java/lang/Enum" (some 0) with
  accessFlags := 1057
  interfaces := #[5, 3, 2]
  cf := some (fileOf pool10 2 #[.nestMembers #[106]] #[] 1057 12 #[111, 113, 115] #[{ accessFlags := 18, nameIndex := 5, descriptorIndex := 6, attributes := #[] }, { accessFlags := 18, nameIndex := 9, descriptorIndex := 10, attributes := #[] }, { accessFlags := 2, nameIndex := 19, descriptorIndex := 10, attributes := #[] }])
  fields := #[{ name := "name", type := (.object "java/lang/String"), accessFlags := 18, slot := 0, constantValue := 0 }, { name := "ordinal", type := .int, accessFlags := 18, slot := 1, constantValue := 0 }, { name := "hash", type := .int, accessFlags := 2, slot := 2, constantValue := 0 }]
  methods := #[]
  instanceTypes := #[(.object "java/lang/String"), .int, .int]
  staticTypes := #[]
  resolved := Array.replicate 204 none
  statics := none }

def pool11 : Array CpInfo := pool [(1, .class_ 2), (0, u "com/example/rochester/rochester/JdqlLexer$Kind"), (2, u "WORD"), (0, u "Lcom/example/rochester/rochester/JdqlLexer$Kind;"), (2, u "STRING"), (2, u "INTEGER"), (2, u "DECIMAL"), (2, u "PARAMETER"), (2, u "SYMBOL"), (2, u "END"), (2, u "$VALUES"), (0, u "[Lcom/example/rochester/rochester/JdqlLexer$Kind;"), (6, .class_ 37), (1, u "java/lang/Enum"), (30, .class_ 69), (0, u "com/example/rochester/rochester/JdqlLexer")] 2

/-- com/example/rochester/rochester/JdqlLexer$Kind -/
def k11 : Class := { plain "com/example/rochester/rochester/JdqlLexer$Kind" (some 10) with
  accessFlags := 16432
  interfaces := #[]
  cf := some (fileOf pool11 1 #[.nestHost 68] #[] 16432 35 #[] #[{ accessFlags := 16409, nameIndex := 5, descriptorIndex := 6, attributes := #[] }, { accessFlags := 16409, nameIndex := 9, descriptorIndex := 6, attributes := #[] }, { accessFlags := 16409, nameIndex := 12, descriptorIndex := 6, attributes := #[] }, { accessFlags := 16409, nameIndex := 15, descriptorIndex := 6, attributes := #[] }, { accessFlags := 16409, nameIndex := 18, descriptorIndex := 6, attributes := #[] }, { accessFlags := 16409, nameIndex := 21, descriptorIndex := 6, attributes := #[] }, { accessFlags := 16409, nameIndex := 24, descriptorIndex := 6, attributes := #[] }, { accessFlags := 4122, nameIndex := 27, descriptorIndex := 28, attributes := #[] }])
  fields := #[{ name := "WORD", type := (.object "com/example/rochester/rochester/JdqlLexer$Kind"), accessFlags := 16409, slot := 0, constantValue := 0 }, { name := "STRING", type := (.object "com/example/rochester/rochester/JdqlLexer$Kind"), accessFlags := 16409, slot := 1, constantValue := 0 }, { name := "INTEGER", type := (.object "com/example/rochester/rochester/JdqlLexer$Kind"), accessFlags := 16409, slot := 2, constantValue := 0 }, { name := "DECIMAL", type := (.object "com/example/rochester/rochester/JdqlLexer$Kind"), accessFlags := 16409, slot := 3, constantValue := 0 }, { name := "PARAMETER", type := (.object "com/example/rochester/rochester/JdqlLexer$Kind"), accessFlags := 16409, slot := 4, constantValue := 0 }, { name := "SYMBOL", type := (.object "com/example/rochester/rochester/JdqlLexer$Kind"), accessFlags := 16409, slot := 5, constantValue := 0 }, { name := "END", type := (.object "com/example/rochester/rochester/JdqlLexer$Kind"), accessFlags := 16409, slot := 6, constantValue := 0 }, { name := "$VALUES", type := (.array (.object "com/example/rochester/rochester/JdqlLexer$Kind")), accessFlags := 4122, slot := 7, constantValue := 0 }]
  methods := #[]
  instanceTypes := #[(.object "java/lang/String"), .int, .int]
  staticTypes := #[(.object "com/example/rochester/rochester/JdqlLexer$Kind"), (.object "com/example/rochester/rochester/JdqlLexer$Kind"), (.object "com/example/rochester/rochester/JdqlLexer$Kind"), (.object "com/example/rochester/rochester/JdqlLexer$Kind"), (.object "com/example/rochester/rochester/JdqlLexer$Kind"), (.object "com/example/rochester/rochester/JdqlLexer$Kind"), (.object "com/example/rochester/rochester/JdqlLexer$Kind"), (.array (.object "com/example/rochester/rochester/JdqlLexer$Kind"))]
  resolved := Array.replicate 72 none
  statics := some 1 }

def pool12 : Array CpInfo := pool [(1, .class_ 2), (0, u "java/lang/Appendable"), (0, .class_ 4), (0, u "java/lang/Object")] 9

/-- java/lang/Appendable -/
def k12 : Class := { plain "java/lang/Appendable" (some 0) with
  accessFlags := 1537
  interfaces := #[]
  cf := some (fileOf pool12 1 #[] #[] 1537 3 #[] #[])
  fields := #[]
  methods := #[]
  instanceTypes := #[]
  staticTypes := #[]
  resolved := Array.replicate 14 none
  statics := none }

def pool13 : Array CpInfo := pool [(1, .class_ 2), (0, u "java/lang/String"), (0, .methodref 4 5), (0, .class_ 6), (0, .nameAndType 7 8), (0, u "java/lang/Object"), (0, u "<init>"), (0, u "()V"), (1, .class_ 12), (1, u "java/lang/AbstractStringBuilder"), (0, u "EMPTYVALUE"), (0, u "[B"), (0, .fieldref 10 16), (0, .nameAndType 17 14), (0, u "value"), (0, .fieldref 1 19), (0, .nameAndType 20 21), (0, u "COMPACT_STRINGS"), (0, u "Z"), (0, .fieldref 10 23), (0, .nameAndType 24 25), (0, u "coder"), (0, u "B"), (0, .methodref 27 28), (0, .class_ 29), (0, .nameAndType 30 31), (0, u "java/lang/StringUTF16"), (0, u "newBytesFor"), (0, u "(I)[B"), (2, u "length"), (0, u "()I"), (9, u "append"), (2, .class_ 49), (0, u "java/lang/CharSequence"), (25, u "maybeLatin1"), (3, .fieldref 10 80), (0, .nameAndType 81 82), (0, u "count"), (0, u "I"), (0, .methodref 10 84), (0, .nameAndType 85 86), (0, u "isLatin1"), (0, u "()Z"), (1, .class_ 90), (1, u "java/lang/StringLatin1"), (9, .methodref 10 101), (0, .nameAndType 102 103), (0, u "ensureCapacityInternal"), (0, u "(I)V"), (21, .methodref 88 126), (0, .nameAndType 127 128), (0, u "inflate"), (0, u "([BI[BII)V"), (7, u "([BII)V"), (54, .methodref 88 192), (0, .nameAndType 193 194), (0, u "canEncode"), (0, u "(C)Z"), (0, .methodref 10 196), (0, .nameAndType 127 8), (0, .methodref 27 198), (0, .nameAndType 199 136), (0, u "putCharSB"), (92, u "(C)Ljava/lang/AbstractStringBuilder;"), (110, u "()[B"), (40, .class_ 445), (0, u "java/lang/Appendable"), (106, u "getValue")] 56

def k13m0 : Method := { name := "<init>", desc := "()V", sig := { parameters := [], returnType := none }, accessFlags := 0, code := none }
def k13c1 : Code := { maxStack := 2, maxLocals := 2, code := jdk_68_method_2_code, exceptionTable := #[], attributes := #[] }
def k13m1 : Method := { name := "<init>", desc := "(I)V", sig := { parameters := [.int], returnType := none }, accessFlags := 0, code := some k13c1 }
def k13c2 : Code := { maxStack := 1, maxLocals := 1, code := jdk_68_method_6_code, exceptionTable := #[], attributes := #[] }
def k13m2 : Method := { name := "length", desc := "()I", sig := { parameters := [], returnType := some .int }, accessFlags := 1, code := some k13c2 }
def k13c3 : Code := { maxStack := 4, maxLocals := 3, code := jdk_68_method_9_code, exceptionTable := #[], attributes := #[] }
def k13m3 : Method := { name := "ensureCapacityInternal", desc := "(I)V", sig := { parameters := [.int], returnType := none }, accessFlags := 2, code := some k13c3 }
def k13c4 : Code := { maxStack := 5, maxLocals := 2, code := jdk_68_method_11_code, exceptionTable := #[], attributes := #[] }
def k13m4 : Method := { name := "inflate", desc := "()V", sig := { parameters := [], returnType := none }, accessFlags := 2, code := some k13c4 }
def k13c5 : Code := { maxStack := 5, maxLocals := 2, code := jdk_68_method_31_code, exceptionTable := #[], attributes := #[] }
def k13m5 : Method := { name := "append", desc := "(C)Ljava/lang/AbstractStringBuilder;", sig := { parameters := [.char], returnType := some (.object "java/lang/AbstractStringBuilder") }, accessFlags := 1, code := some k13c5 }
def k13c6 : Code := { maxStack := 1, maxLocals := 1, code := jdk_68_method_64_code, exceptionTable := #[], attributes := #[] }
def k13m6 : Method := { name := "getValue", desc := "()[B", sig := { parameters := [], returnType := some (.array .byte) }, accessFlags := 16, code := some k13c6 }
def k13c7 : Code := { maxStack := 1, maxLocals := 1, code := jdk_68_method_68_code, exceptionTable := #[], attributes := #[] }
def k13m7 : Method := { name := "isLatin1", desc := "()Z", sig := { parameters := [], returnType := some .boolean }, accessFlags := 16, code := some k13c7 }
/-- java/lang/AbstractStringBuilder -/
def k13 : Class := { plain "java/lang/AbstractStringBuilder" (some 0) with
  accessFlags := 1056
  interfaces := #[12, 4]
  cf := some (fileOf pool13 10 #[] #[{ accessFlags := 0, nameIndex := 7, descriptorIndex := 8, attributes := #[] }, { accessFlags := 0, nameIndex := 7, descriptorIndex := 103, attributes := #[] }, { accessFlags := 1, nameIndex := 34, descriptorIndex := 35, attributes := #[] }, { accessFlags := 2, nameIndex := 102, descriptorIndex := 103, attributes := #[] }, { accessFlags := 2, nameIndex := 127, descriptorIndex := 8, attributes := #[] }, { accessFlags := 1, nameIndex := 45, descriptorIndex := 292, attributes := #[] }, { accessFlags := 16, nameIndex := 552, descriptorIndex := 403, attributes := #[] }, { accessFlags := 16, nameIndex := 85, descriptorIndex := 86, attributes := #[] }] 1056 4 #[444, 48] #[{ accessFlags := 0, nameIndex := 17, descriptorIndex := 14, attributes := #[] }, { accessFlags := 0, nameIndex := 24, descriptorIndex := 25, attributes := #[] }, { accessFlags := 0, nameIndex := 75, descriptorIndex := 21, attributes := #[] }, { accessFlags := 0, nameIndex := 81, descriptorIndex := 82, attributes := #[] }, { accessFlags := 26, nameIndex := 13, descriptorIndex := 14, attributes := #[] }])
  fields := #[{ name := "value", type := (.array .byte), accessFlags := 0, slot := 0, constantValue := 0 }, { name := "coder", type := .byte, accessFlags := 0, slot := 1, constantValue := 0 }, { name := "maybeLatin1", type := .boolean, accessFlags := 0, slot := 2, constantValue := 0 }, { name := "count", type := .int, accessFlags := 0, slot := 3, constantValue := 0 }, { name := "EMPTYVALUE", type := (.array .byte), accessFlags := 26, slot := 0, constantValue := 0 }]
  methods := #[k13m0, k13m1, k13m2, k13m3, k13m4, k13m5, k13m6, k13m7]
  instanceTypes := #[(.array .byte), .byte, .boolean, .int]
  staticTypes := #[(.array .byte)]
  resolved := Array.replicate 609 none
  statics := none }

def pool14 : Array CpInfo := pool [(1, .methodref 2 3), (0, .class_ 4), (0, .nameAndType 5 6), (0, u "java/lang/AbstractStringBuilder"), (0, u "<init>"), (0, u "(I)V"), (11, .class_ 20), (1, u "java/lang/String"), (3, .class_ 26), (1, u "java/lang/StringBuilder"), (0, u "append"), (22, .methodref 2 51), (0, .nameAndType 27 52), (0, u "(C)Ljava/lang/AbstractStringBuilder;"), (84, .methodref 18 138), (0, .nameAndType 5 139), (0, u "(Ljava/lang/StringBuilder;)V"), (5, u "()V"), (10, u "()I"), (129, u "(C)Ljava/lang/StringBuilder;"), (56, .methodref 2 344), (0, .nameAndType 345 156), (0, u "length"), (3, .class_ 350), (0, u "java/lang/Appendable"), (0, .class_ 352), (0, u "java/io/Serializable"), (0, .class_ 354), (0, u "java/lang/Comparable"), (0, .class_ 356), (0, u "java/lang/CharSequence"), (0, u "serialVersionUID"), (0, u "J"), (40, u "toString"), (0, u "()Ljava/lang/String;")] 21

def k14m0 : Method := { name := "<init>", desc := "()V", sig := { parameters := [], returnType := none }, accessFlags := 1, code := none }
def k14c1 : Code := { maxStack := 2, maxLocals := 2, code := jdk_67_method_2_code, exceptionTable := #[], attributes := #[] }
def k14m1 : Method := { name := "<init>", desc := "(I)V", sig := { parameters := [.int], returnType := none }, accessFlags := 1, code := some k14c1 }
def k14c2 : Code := { maxStack := 2, maxLocals := 2, code := jdk_67_method_14_code, exceptionTable := #[], attributes := #[] }
def k14m2 : Method := { name := "append", desc := "(C)Ljava/lang/StringBuilder;", sig := { parameters := [.char], returnType := some (.object "java/lang/StringBuilder") }, accessFlags := 1, code := some k14c2 }
def k14c3 : Code := { maxStack := 3, maxLocals := 1, code := jdk_67_method_42_code, exceptionTable := #[], attributes := #[] }
def k14m3 : Method := { name := "toString", desc := "()Ljava/lang/String;", sig := { parameters := [], returnType := some (.object "java/lang/String") }, accessFlags := 1, code := some k14c3 }
def k14c4 : Code := { maxStack := 1, maxLocals := 1, code := jdk_67_method_93_code, exceptionTable := #[], attributes := #[] }
def k14m4 : Method := { name := "length", desc := "()I", sig := { parameters := [], returnType := some .int }, accessFlags := 4161, code := some k14c4 }
/-- java/lang/StringBuilder -/
def k14 : Class := { plain "java/lang/StringBuilder" (some 13) with
  accessFlags := 49
  interfaces := #[12, 2, 3, 4]
  cf := some (fileOf pool14 24 #[] #[{ accessFlags := 1, nameIndex := 5, descriptorIndex := 145, attributes := #[] }, { accessFlags := 1, nameIndex := 5, descriptorIndex := 6, attributes := #[] }, { accessFlags := 1, nameIndex := 27, descriptorIndex := 286, attributes := #[] }, { accessFlags := 1, nameIndex := 399, descriptorIndex := 400, attributes := #[] }, { accessFlags := 4161, nameIndex := 345, descriptorIndex := 156, attributes := #[] }] 49 2 #[349, 351, 353, 355] #[{ accessFlags := 24, nameIndex := 357, descriptorIndex := 358, attributes := #[] }])
  fields := #[{ name := "serialVersionUID", type := .long, accessFlags := 24, slot := 0, constantValue := 0 }]
  methods := #[k14m0, k14m1, k14m2, k14m3, k14m4]
  instanceTypes := #[(.array .byte), .byte, .boolean, .int]
  staticTypes := #[.long]
  resolved := Array.replicate 422 none
  statics := none }

def pool15 : Array CpInfo := pool [(1, .class_ 2), (0, u "java/lang/String"), (1, .class_ 6), (1, u "java/lang/Object"), (0, u "<init>"), (0, u "()V"), (0, .methodref 1 10), (0, .nameAndType 11 12), (0, u "checkIndex"), (0, u "(II)V"), (0, .methodref 14 15), (0, .class_ 16), (0, .nameAndType 17 18), (0, u "java/lang/StringLatin1"), (0, u "inflate"), (0, u "([BI[CII)V"), (1, .class_ 22), (1, u "java/lang/StringUTF16"), (3, .nameAndType 17 27), (0, u "([BI[BII)V"), (25, u "([BI)C"), (36, u "canEncode"), (14, u "(C)Z"), (15, u "$assertionsDisabled"), (0, u "Z"), (69, u "toChars"), (28, .class_ 223), (1, u "java/lang/StringLatin1$LinesSpliterator"), (16, .methodref 20 26), (11, u "charAt"), (15, u "([B)[C"), (121, .class_ 391), (0, u "java/lang/StringLatin1$CharsSpliterator")] 3

def k15m0 : Method := { name := "<init>", desc := "()V", sig := { parameters := [], returnType := none }, accessFlags := 0, code := none }
def k15c1 : Code := { maxStack := 2, maxLocals := 2, code := jdk_43_method_2_code, exceptionTable := #[], attributes := #[] }
def k15m1 : Method := { name := "charAt", desc := "([BI)C", sig := { parameters := [(.array .byte), .int], returnType := some .char }, accessFlags := 9, code := some k15c1 }
def k15c2 : Code := { maxStack := 2, maxLocals := 1, code := jdk_43_method_3_code, exceptionTable := #[], attributes := #[] }
def k15m2 : Method := { name := "canEncode", desc := "(C)Z", sig := { parameters := [.char], returnType := some .boolean }, accessFlags := 9, code := some k15c2 }
def k15c3 : Code := { maxStack := 5, maxLocals := 2, code := jdk_43_method_9_code, exceptionTable := #[], attributes := #[] }
def k15m3 : Method := { name := "toChars", desc := "([B)[C", sig := { parameters := [(.array .byte)], returnType := some (.array .char) }, accessFlags := 9, code := some k15c3 }
def k15c4 : Code := { maxStack := 4, maxLocals := 6, code := jdk_43_method_49_code, exceptionTable := #[], attributes := #[] }
def k15m4 : Method := { name := "inflate", desc := "([BI[CII)V", sig := { parameters := [(.array .byte), .int, (.array .char), .int, .int], returnType := none }, accessFlags := 9, code := some k15c4 }
def k15c5 : Code := { maxStack := 5, maxLocals := 5, code := jdk_43_method_50_code, exceptionTable := #[], attributes := #[] }
def k15m5 : Method := { name := "inflate", desc := "([BI[BII)V", sig := { parameters := [(.array .byte), .int, (.array .byte), .int, .int], returnType := none }, accessFlags := 9, code := some k15c5 }
/-- java/lang/StringLatin1 -/
def k15 : Class := { plain "java/lang/StringLatin1" (some 0) with
  accessFlags := 48
  interfaces := #[]
  cf := some (fileOf pool15 14 #[.nestMembers #[390, 221]] #[{ accessFlags := 0, nameIndex := 7, descriptorIndex := 8, attributes := #[] }, { accessFlags := 9, nameIndex := 252, descriptorIndex := 53, attributes := #[] }, { accessFlags := 9, nameIndex := 90, descriptorIndex := 105, attributes := #[] }, { accessFlags := 9, nameIndex := 192, descriptorIndex := 268, attributes := #[] }, { accessFlags := 9, nameIndex := 17, descriptorIndex := 18, attributes := #[] }, { accessFlags := 9, nameIndex := 17, descriptorIndex := 27, attributes := #[] }] 48 4 #[] #[{ accessFlags := 4120, nameIndex := 121, descriptorIndex := 122, attributes := #[] }])
  fields := #[{ name := "$assertionsDisabled", type := .boolean, accessFlags := 4120, slot := 0, constantValue := 0 }]
  methods := #[k15m0, k15m1, k15m2, k15m3, k15m4, k15m5]
  instanceTypes := #[]
  staticTypes := #[.boolean]
  resolved := Array.replicate 395 none
  statics := none }

def pool16 : Array CpInfo := pool [(2, .class_ 4), (1, u "java/lang/Object"), (0, u "<init>"), (0, u "()V"), (7, .class_ 16), (1, u "java/util/Arrays"), (57, .class_ 76), (1, u "java/util/Arrays$NaturalOrder"), (32, u "()Ljava/lang/Object;"), (3, .class_ 115), (1, u "java/util/Arrays$LegacyMergeSort"), (1, u "Z"), (10, .nameAndType 129 109), (0, u "clone"), (9, u "copyOfRange"), (170, .methodref 311 128), (0, .class_ 312), (0, u "[B"), (29, u "([BII)[B"), (32, .class_ 376), (0, u "java/util/Arrays$ArrayList"), (68, u "$assertionsDisabled"), (269, u "MIN_ARRAY_SORT_GRAN"), (0, u "I"), (2, u "INSERTIONSORT_THRESHOLD"), (255, .class_ 976), (0, u "java/util/Arrays$ArrayItr")] 52

def k16m0 : Method := { name := "<init>", desc := "()V", sig := { parameters := [], returnType := none }, accessFlags := 2, code := none }
def k16c1 : Code := { maxStack := 3, maxLocals := 3, code := jdk_65_method_132_code, exceptionTable := #[], attributes := #[] }
def k16m1 : Method := { name := "copyOfRange", desc := "([BII)[B", sig := { parameters := [(.array .byte), .int, .int], returnType := some (.array .byte) }, accessFlags := 9, code := some k16c1 }
/-- java/util/Arrays -/
def k16 : Class := { plain "java/util/Arrays" (some 0) with
  accessFlags := 49
  interfaces := #[]
  cf := some (fileOf pool16 14 #[.nestMembers #[975, 375, 113, 74]] #[{ accessFlags := 2, nameIndex := 5, descriptorIndex := 6, attributes := #[] }, { accessFlags := 9, nameIndex := 139, descriptorIndex := 342, attributes := #[] }] 49 2 #[] #[{ accessFlags := 26, nameIndex := 715, descriptorIndex := 716, attributes := #[] }, { accessFlags := 26, nameIndex := 719, descriptorIndex := 716, attributes := #[] }, { accessFlags := 4120, nameIndex := 445, descriptorIndex := 117, attributes := #[] }])
  fields := #[{ name := "MIN_ARRAY_SORT_GRAN", type := .int, accessFlags := 26, slot := 0, constantValue := 0 }, { name := "INSERTIONSORT_THRESHOLD", type := .int, accessFlags := 26, slot := 1, constantValue := 0 }, { name := "$assertionsDisabled", type := .boolean, accessFlags := 4120, slot := 2, constantValue := 0 }]
  methods := #[k16m0, k16m1]
  instanceTypes := #[]
  staticTypes := #[.int, .int, .boolean]
  resolved := Array.replicate 1029 none
  statics := none }

def pool17 : Array CpInfo := pool [(1, .class_ 2), (0, u "java/lang/Cloneable"), (0, .class_ 4), (0, u "java/lang/Object")] 2

/-- java/lang/Cloneable -/
def k17 : Class := { plain "java/lang/Cloneable" (some 0) with
  accessFlags := 1537
  interfaces := #[]
  cf := some (fileOf pool17 1 #[] #[] 1537 3 #[] #[])
  fields := #[]
  methods := #[]
  instanceTypes := #[]
  staticTypes := #[]
  resolved := Array.replicate 7 none
  statics := none }

def pool18 : Array CpInfo := pool [(3, .class_ 4), (0, u "java/lang/String"), (1, .class_ 8), (1, u "java/lang/Object"), (0, u "<init>"), (0, u "()V"), (0, .methodref 12 13), (0, .class_ 14), (0, .nameAndType 15 16), (0, u "java/lang/StringUTF16"), (0, u "newBytesLength"), (0, u "(I)I"), (3, .integer 1073741823), (23, .fieldref 12 45), (0, .nameAndType 46 47), (0, u "$assertionsDisabled"), (0, u "Z"), (0, .methodref 12 49), (0, .nameAndType 50 51), (0, u "length"), (0, u "([B)I"), (7, .fieldref 12 60), (0, .nameAndType 61 62), (0, u "HI_BYTE_SHIFT"), (0, u "I"), (0, .fieldref 12 64), (0, .nameAndType 65 62), (0, u "LO_BYTE_SHIFT"), (1, .methodref 12 68), (0, .nameAndType 69 70), (0, u "checkIndex"), (0, u "(I[B)V"), (0, .methodref 12 72), (0, .nameAndType 73 74), (0, u "getChar"), (0, u "([BI)C"), (24, u "(II[B)V"), (3, .methodref 12 104), (0, .nameAndType 105 106), (0, u "getChars"), (0, u "([BII[CI)V"), (0, .methodref 12 108), (0, .nameAndType 109 110), (0, u "newBytesFor"), (0, u "(I)[B"), (0, .methodref 12 112), (0, .nameAndType 113 114), (0, u "putChar"), (0, u "([BII)V"), (0, .methodref 12 116), (0, .nameAndType 117 118), (0, u "compress"), (0, u "([CI[BII)I"), (0, .methodref 12 120), (0, .nameAndType 121 122), (0, u "toBytes"), (0, u "([CII)[B"), (17, u "inflate"), (0, u "([BI[BII)V"), (31, .methodref 12 174), (0, .nameAndType 175 99), (0, u "checkBoundsOffCount"), (85, u "coderFromArrayLen"), (0, u "([BI)B"), (18, u "(III)I"), (60, u "toChars"), (26, .class_ 371), (1, u "java/lang/StringUTF16$LinesSpliterator"), (20, u "charAt"), (21, .methodref 3 415), (0, .nameAndType 69 416), (0, u "(II)V"), (2, .methodref 3 420), (0, .nameAndType 175 281), (9, u "MAX_LENGTH"), (23, u "([B)[C"), (131, u "putCharSB"), (40, .class_ 628), (0, u "java/lang/StringUTF16$CodePointsSpliterator"), (0, .class_ 630), (0, u "java/lang/StringUTF16$CharsSpliterator")] 4

def k18m0 : Method := { name := "<init>", desc := "()V", sig := { parameters := [], returnType := none }, accessFlags := 0, code := none }
def k18c1 : Code := { maxStack := 1, maxLocals := 1, code := jdk_52_method_2_code, exceptionTable := #[], attributes := #[] }
def k18m1 : Method := { name := "newBytesFor", desc := "(I)[B", sig := { parameters := [.int], returnType := some (.array .byte) }, accessFlags := 9, code := some k18c1 }
def k18c2 : Code := { maxStack := 4, maxLocals := 1, code := jdk_52_method_3_code, exceptionTable := #[], attributes := #[] }
def k18m2 : Method := { name := "newBytesLength", desc := "(I)I", sig := { parameters := [.int], returnType := some .int }, accessFlags := 9, code := some k18c2 }
def k18c3 : Code := { maxStack := 4, maxLocals := 3, code := jdk_52_method_4_code, exceptionTable := #[], attributes := #[] }
def k18m3 : Method := { name := "putChar", desc := "([BII)V", sig := { parameters := [(.array .byte), .int, .int], returnType := none }, accessFlags := 8, code := some k18c3 }
def k18c4 : Code := { maxStack := 3, maxLocals := 2, code := jdk_52_method_5_code, exceptionTable := #[], attributes := #[] }
def k18m4 : Method := { name := "getChar", desc := "([BI)C", sig := { parameters := [(.array .byte), .int], returnType := some .char }, accessFlags := 8, code := some k18c4 }
def k18c5 : Code := { maxStack := 2, maxLocals := 1, code := jdk_52_method_6_code, exceptionTable := #[], attributes := #[] }
def k18m5 : Method := { name := "length", desc := "([B)I", sig := { parameters := [(.array .byte)], returnType := some .int }, accessFlags := 9, code := some k18c5 }
def k18c6 : Code := { maxStack := 5, maxLocals := 2, code := jdk_52_method_13_code, exceptionTable := #[], attributes := #[] }
def k18m6 : Method := { name := "toChars", desc := "([B)[C", sig := { parameters := [(.array .byte)], returnType := some (.array .char) }, accessFlags := 9, code := some k18c6 }
def k18c7 : Code := { maxStack := 4, maxLocals := 5, code := jdk_52_method_14_code, exceptionTable := #[], attributes := #[] }
def k18m7 : Method := { name := "toBytes", desc := "([CII)[B", sig := { parameters := [(.array .char), .int, .int], returnType := some (.array .byte) }, accessFlags := 9, code := some k18c7 }
def k18c8 : Code := { maxStack := 2, maxLocals := 2, code := jdk_52_method_15_code, exceptionTable := #[], attributes := #[] }
def k18m8 : Method := { name := "coderFromArrayLen", desc := "([BI)B", sig := { parameters := [(.array .byte), .int], returnType := some .byte }, accessFlags := 8, code := some k18c8 }
def k18c9 : Code := { maxStack := 5, maxLocals := 6, code := jdk_52_method_16_code, exceptionTable := #[], attributes := #[] }
def k18m9 : Method := { name := "compress", desc := "([CII)[B", sig := { parameters := [(.array .char), .int, .int], returnType := some (.array .byte) }, accessFlags := 9, code := some k18c9 }
def k18c10 : Code := { maxStack := 3, maxLocals := 7, code := jdk_52_method_21_code, exceptionTable := #[], attributes := #[] }
def k18m10 : Method := { name := "compress", desc := "([CI[BII)I", sig := { parameters := [(.array .char), .int, (.array .byte), .int, .int], returnType := some .int }, accessFlags := 9, code := some k18c10 }
def k18c11 : Code := { maxStack := 4, maxLocals := 6, code := jdk_52_method_26_code, exceptionTable := #[], attributes := #[] }
def k18m11 : Method := { name := "getChars", desc := "([BII[CI)V", sig := { parameters := [(.array .byte), .int, .int, (.array .char), .int], returnType := none }, accessFlags := 9, code := some k18c11 }
def k18c12 : Code := { maxStack := 3, maxLocals := 3, code := jdk_52_method_71_code, exceptionTable := #[], attributes := #[] }
def k18m12 : Method := { name := "putCharSB", desc := "([BII)V", sig := { parameters := [(.array .byte), .int, .int], returnType := none }, accessFlags := 9, code := some k18c12 }
def k18c13 : Code := { maxStack := 2, maxLocals := 2, code := jdk_52_method_83_code, exceptionTable := #[], attributes := #[] }
def k18m13 : Method := { name := "charAt", desc := "([BI)C", sig := { parameters := [(.array .byte), .int], returnType := some .char }, accessFlags := 9, code := some k18c13 }
def k18c14 : Code := { maxStack := 4, maxLocals := 6, code := jdk_52_method_86_code, exceptionTable := #[], attributes := #[] }
def k18m14 : Method := { name := "inflate", desc := "([BI[BII)V", sig := { parameters := [(.array .byte), .int, (.array .byte), .int, .int], returnType := none }, accessFlags := 9, code := some k18c14 }
def k18c15 : Code := { maxStack := 2, maxLocals := 2, code := jdk_52_method_91_code, exceptionTable := #[], attributes := #[] }
def k18m15 : Method := { name := "checkIndex", desc := "(I[B)V", sig := { parameters := [.int, (.array .byte)], returnType := none }, accessFlags := 9, code := some k18c15 }
def k18c16 : Code := { maxStack := 3, maxLocals := 3, code := jdk_52_method_94_code, exceptionTable := #[], attributes := #[] }
def k18m16 : Method := { name := "checkBoundsOffCount", desc := "(II[B)V", sig := { parameters := [.int, .int, (.array .byte)], returnType := none }, accessFlags := 9, code := some k18c16 }
/-- java/lang/StringUTF16 -/
def k18 : Class := { plain "java/lang/StringUTF16" (some 0) with
  accessFlags := 48
  interfaces := #[]
  cf := some (fileOf pool18 12 #[.nestMembers #[627, 629, 369]] #[{ accessFlags := 0, nameIndex := 9, descriptorIndex := 10, attributes := #[] }, { accessFlags := 9, nameIndex := 109, descriptorIndex := 110, attributes := #[] }, { accessFlags := 9, nameIndex := 15, descriptorIndex := 16, attributes := #[] }, { accessFlags := 8, nameIndex := 113, descriptorIndex := 114, attributes := #[] }, { accessFlags := 8, nameIndex := 73, descriptorIndex := 74, attributes := #[] }, { accessFlags := 9, nameIndex := 50, descriptorIndex := 51, attributes := #[] }, { accessFlags := 9, nameIndex := 342, descriptorIndex := 454, attributes := #[] }, { accessFlags := 9, nameIndex := 121, descriptorIndex := 122, attributes := #[] }, { accessFlags := 8, nameIndex := 261, descriptorIndex := 262, attributes := #[] }, { accessFlags := 9, nameIndex := 117, descriptorIndex := 122, attributes := #[] }, { accessFlags := 9, nameIndex := 117, descriptorIndex := 118, attributes := #[] }, { accessFlags := 9, nameIndex := 105, descriptorIndex := 106, attributes := #[] }, { accessFlags := 9, nameIndex := 586, descriptorIndex := 114, attributes := #[] }, { accessFlags := 9, nameIndex := 392, descriptorIndex := 74, attributes := #[] }, { accessFlags := 9, nameIndex := 140, descriptorIndex := 141, attributes := #[] }, { accessFlags := 9, nameIndex := 69, descriptorIndex := 70, attributes := #[] }, { accessFlags := 9, nameIndex := 175, descriptorIndex := 99, attributes := #[] }] 48 6 #[] #[{ accessFlags := 26, nameIndex := 61, descriptorIndex := 62, attributes := #[] }, { accessFlags := 26, nameIndex := 65, descriptorIndex := 62, attributes := #[] }, { accessFlags := 24, nameIndex := 430, descriptorIndex := 62, attributes := #[] }, { accessFlags := 4120, nameIndex := 46, descriptorIndex := 47, attributes := #[] }])
  fields := #[{ name := "HI_BYTE_SHIFT", type := .int, accessFlags := 26, slot := 0, constantValue := 0 }, { name := "LO_BYTE_SHIFT", type := .int, accessFlags := 26, slot := 1, constantValue := 0 }, { name := "MAX_LENGTH", type := .int, accessFlags := 24, slot := 2, constantValue := 0 }, { name := "$assertionsDisabled", type := .boolean, accessFlags := 4120, slot := 3, constantValue := 0 }]
  methods := #[k18m0, k18m1, k18m2, k18m3, k18m4, k18m5, k18m6, k18m7, k18m8, k18m9, k18m10, k18m11, k18m12, k18m13, k18m14, k18m15, k18m16]
  instanceTypes := #[]
  staticTypes := #[.int, .int, .int, .boolean]
  resolved := Array.replicate 635 none
  statics := some 2 }

def pool19 : Array CpInfo := pool [(2, .class_ 4), (1, u "java/lang/Object"), (0, u "<init>"), (0, u "()V"), (17, .class_ 26), (1, u "jdk/internal/util/Preconditions"), (6, u "checkIndex"), (15, u "checkFromIndexSize"), (5, .class_ 56), (0, u "jdk/internal/util/Preconditions$4"), (57, .class_ 115), (0, u "jdk/internal/util/Preconditions$1"), (7, u "SIOOBE_FORMATTER"), (0, u "Ljava/util/function/BiFunction;"), (0, .class_ 126), (0, u "jdk/internal/util/Preconditions$2"), (3, u "AIOOBE_FORMATTER"), (0, .class_ 132), (0, u "jdk/internal/util/Preconditions$3"), (3, u "IOOBE_FORMATTER"), (41, u "(IILjava/util/function/BiFunction;)I"), (4, u "(IIILjava/util/function/BiFunction;)I")] 10

def k19m0 : Method := { name := "<init>", desc := "()V", sig := { parameters := [], returnType := none }, accessFlags := 1, code := none }
def k19c1 : Code := { maxStack := 3, maxLocals := 3, code := jdk_41_method_11_code, exceptionTable := #[], attributes := #[] }
def k19m1 : Method := { name := "checkIndex", desc := "(IILjava/util/function/BiFunction;)I", sig := { parameters := [.int, .int, (.object "java/util/function/BiFunction")], returnType := some .int }, accessFlags := 9, code := some k19c1 }
def k19c2 : Code := { maxStack := 4, maxLocals := 4, code := jdk_41_method_13_code, exceptionTable := #[], attributes := #[] }
def k19m2 : Method := { name := "checkFromIndexSize", desc := "(IIILjava/util/function/BiFunction;)I", sig := { parameters := [.int, .int, .int, (.object "java/util/function/BiFunction")], returnType := some .int }, accessFlags := 9, code := some k19c2 }
/-- jdk/internal/util/Preconditions -/
def k19 : Class := { plain "jdk/internal/util/Preconditions" (some 0) with
  accessFlags := 33
  interfaces := #[]
  cf := some (fileOf pool19 24 #[.nestMembers #[55, 131, 125, 114]] #[{ accessFlags := 1, nameIndex := 5, descriptorIndex := 6, attributes := #[] }, { accessFlags := 9, nameIndex := 33, descriptorIndex := 178, attributes := #[] }, { accessFlags := 9, nameIndex := 49, descriptorIndex := 183, attributes := #[] }] 33 2 #[] #[{ accessFlags := 25, nameIndex := 123, descriptorIndex := 124, attributes := #[] }, { accessFlags := 25, nameIndex := 130, descriptorIndex := 124, attributes := #[] }, { accessFlags := 25, nameIndex := 136, descriptorIndex := 124, attributes := #[] }])
  fields := #[{ name := "SIOOBE_FORMATTER", type := (.object "java/util/function/BiFunction"), accessFlags := 25, slot := 0, constantValue := 0 }, { name := "AIOOBE_FORMATTER", type := (.object "java/util/function/BiFunction"), accessFlags := 25, slot := 1, constantValue := 0 }, { name := "IOOBE_FORMATTER", type := (.object "java/util/function/BiFunction"), accessFlags := 25, slot := 2, constantValue := 0 }]
  methods := #[k19m0, k19m1, k19m2]
  instanceTypes := #[]
  staticTypes := #[(.object "java/util/function/BiFunction"), (.object "java/util/function/BiFunction"), (.object "java/util/function/BiFunction")]
  resolved := Array.replicate 194 none
  statics := some 3 }

def pool20 : Array CpInfo := pool [(9, u "<init>"), (6, .class_ 18), (1, u "java/lang/Object"), (0, u "()V"), (1, .class_ 23), (1, u "jdk/internal/util/ArraysSupport"), (0, u "LOG2_ARRAY_LONG_INDEX_SCALE"), (0, u "I"), (2, u "U"), (0, u "Ljdk/internal/misc/Unsafe;"), (8, u "BIG_ENDIAN"), (0, u "Z"), (8, u "LOG2_BYTE_BIT_SIZE"), (4, u "LOG2_ARRAY_INT_INDEX_SCALE"), (54, u "JLA"), (0, u "Ljdk/internal/access/JavaLangAccess;"), (11, u "LOG2_ARRAY_BOOLEAN_INDEX_SCALE"), (9, u "LOG2_ARRAY_BYTE_INDEX_SCALE"), (5, u "LOG2_ARRAY_CHAR_INDEX_SCALE"), (5, u "LOG2_ARRAY_SHORT_INDEX_SCALE"), (18, u "LOG2_ARRAY_FLOAT_INDEX_SCALE"), (24, u "LOG2_ARRAY_DOUBLE_INDEX_SCALE"), (89, u "T_BOOLEAN"), (2, u "T_CHAR"), (1, u "T_FLOAT"), (1, u "T_DOUBLE"), (1, u "T_BYTE"), (1, u "T_SHORT"), (1, u "T_INT"), (1, u "T_LONG"), (1, u "SOFT_MAX_ARRAY_LENGTH")] 83

def k20m0 : Method := { name := "<init>", desc := "()V", sig := { parameters := [], returnType := none }, accessFlags := 2, code := none }
/-- jdk/internal/util/ArraysSupport -/
def k20 : Class := { plain "jdk/internal/util/ArraysSupport" (some 0) with
  accessFlags := 33
  interfaces := #[]
  cf := some (fileOf pool20 21 #[] #[{ accessFlags := 2, nameIndex := 9, descriptorIndex := 19, attributes := #[] }] 33 16 #[] #[{ accessFlags := 24, nameIndex := 28, descriptorIndex := 29, attributes := #[] }, { accessFlags := 26, nameIndex := 38, descriptorIndex := 39, attributes := #[] }, { accessFlags := 25, nameIndex := 121, descriptorIndex := 25, attributes := #[] }, { accessFlags := 25, nameIndex := 131, descriptorIndex := 25, attributes := #[] }, { accessFlags := 25, nameIndex := 137, descriptorIndex := 25, attributes := #[] }, { accessFlags := 25, nameIndex := 143, descriptorIndex := 25, attributes := #[] }, { accessFlags := 25, nameIndex := 53, descriptorIndex := 25, attributes := #[] }, { accessFlags := 25, nameIndex := 24, descriptorIndex := 25, attributes := #[] }, { accessFlags := 25, nameIndex := 162, descriptorIndex := 25, attributes := #[] }, { accessFlags := 25, nameIndex := 187, descriptorIndex := 25, attributes := #[] }, { accessFlags := 26, nameIndex := 48, descriptorIndex := 25, attributes := #[] }, { accessFlags := 25, nameIndex := 277, descriptorIndex := 25, attributes := #[] }, { accessFlags := 25, nameIndex := 280, descriptorIndex := 25, attributes := #[] }, { accessFlags := 25, nameIndex := 282, descriptorIndex := 25, attributes := #[] }, { accessFlags := 25, nameIndex := 284, descriptorIndex := 25, attributes := #[] }, { accessFlags := 25, nameIndex := 286, descriptorIndex := 25, attributes := #[] }, { accessFlags := 25, nameIndex := 288, descriptorIndex := 25, attributes := #[] }, { accessFlags := 25, nameIndex := 290, descriptorIndex := 25, attributes := #[] }, { accessFlags := 25, nameIndex := 292, descriptorIndex := 25, attributes := #[] }, { accessFlags := 26, nameIndex := 108, descriptorIndex := 109, attributes := #[] }, { accessFlags := 25, nameIndex := 294, descriptorIndex := 25, attributes := #[] }])
  fields := #[{ name := "U", type := (.object "jdk/internal/misc/Unsafe"), accessFlags := 24, slot := 0, constantValue := 0 }, { name := "BIG_ENDIAN", type := .boolean, accessFlags := 26, slot := 1, constantValue := 0 }, { name := "LOG2_ARRAY_BOOLEAN_INDEX_SCALE", type := .int, accessFlags := 25, slot := 2, constantValue := 0 }, { name := "LOG2_ARRAY_BYTE_INDEX_SCALE", type := .int, accessFlags := 25, slot := 3, constantValue := 0 }, { name := "LOG2_ARRAY_CHAR_INDEX_SCALE", type := .int, accessFlags := 25, slot := 4, constantValue := 0 }, { name := "LOG2_ARRAY_SHORT_INDEX_SCALE", type := .int, accessFlags := 25, slot := 5, constantValue := 0 }, { name := "LOG2_ARRAY_INT_INDEX_SCALE", type := .int, accessFlags := 25, slot := 6, constantValue := 0 }, { name := "LOG2_ARRAY_LONG_INDEX_SCALE", type := .int, accessFlags := 25, slot := 7, constantValue := 0 }, { name := "LOG2_ARRAY_FLOAT_INDEX_SCALE", type := .int, accessFlags := 25, slot := 8, constantValue := 0 }, { name := "LOG2_ARRAY_DOUBLE_INDEX_SCALE", type := .int, accessFlags := 25, slot := 9, constantValue := 0 }, { name := "LOG2_BYTE_BIT_SIZE", type := .int, accessFlags := 26, slot := 10, constantValue := 0 }, { name := "T_BOOLEAN", type := .int, accessFlags := 25, slot := 11, constantValue := 0 }, { name := "T_CHAR", type := .int, accessFlags := 25, slot := 12, constantValue := 0 }, { name := "T_FLOAT", type := .int, accessFlags := 25, slot := 13, constantValue := 0 }, { name := "T_DOUBLE", type := .int, accessFlags := 25, slot := 14, constantValue := 0 }, { name := "T_BYTE", type := .int, accessFlags := 25, slot := 15, constantValue := 0 }, { name := "T_SHORT", type := .int, accessFlags := 25, slot := 16, constantValue := 0 }, { name := "T_INT", type := .int, accessFlags := 25, slot := 17, constantValue := 0 }, { name := "T_LONG", type := .int, accessFlags := 25, slot := 18, constantValue := 0 }, { name := "JLA", type := (.object "jdk/internal/access/JavaLangAccess"), accessFlags := 26, slot := 19, constantValue := 0 }, { name := "SOFT_MAX_ARRAY_LENGTH", type := .int, accessFlags := 25, slot := 20, constantValue := 0 }]
  methods := #[k20m0]
  instanceTypes := #[]
  staticTypes := #[(.object "jdk/internal/misc/Unsafe"), .boolean, .int, .int, .int, .int, .int, .int, .int, .int, .int, .int, .int, .int, .int, .int, .int, .int, .int, (.object "jdk/internal/access/JavaLangAccess"), .int]
  resolved := Array.replicate 378 none
  statics := none }

/-- the primitive byte -/
def k21 : Class := { plain "byte" none with kind := .primitive 'B', accessFlags := 0x411 }
/-- [B -/
def k22 : Class := { plain "[B" (some 0) with kind := .array 21 .byte, interfaces := #[17, 2], accessFlags := 1041 }

/-- the primitive char -/
def k23 : Class := { plain "char" none with kind := .primitive 'C', accessFlags := 0x411 }
/-- [C -/
def k24 : Class := { plain "[C" (some 0) with kind := .array 23 .char, interfaces := #[17, 2], accessFlags := 1041 }

/-- the primitive int -/
def k25 : Class := { plain "int" none with kind := .primitive 'I', accessFlags := 0x411 }
/-- [I -/
def k26 : Class := { plain "[I" (some 0) with kind := .array 25 .int, interfaces := #[17, 2], accessFlags := 1041 }

def heap : Heap := #[{ cls := 7, slots := #[.long 0, .int 1, .null, .int 0, .null, .int 0, .int 0], vm := .statics 7 },
  { cls := 11, slots := #[.ref 4, .ref 5, .ref 6, .ref 7, .ref 8, .ref 9, .ref 10, .null], vm := .statics 11 },
  { cls := 18, slots := #[.int 0, .int 8, .int 0, .int 1], vm := .statics 18 },
  { cls := 19, slots := #[.null, .null, .null], vm := .statics 19 },
  { cls := 11, slots := #[.null, .int 0, .int 0], vm := .none },
  { cls := 11, slots := #[.null, .int 1, .int 0], vm := .none },
  { cls := 11, slots := #[.null, .int 2, .int 0], vm := .none },
  { cls := 11, slots := #[.null, .int 3, .int 0], vm := .none },
  { cls := 11, slots := #[.null, .int 4, .int 0], vm := .none },
  { cls := 11, slots := #[.null, .int 5, .int 0], vm := .none },
  { cls := 11, slots := #[.null, .int 6, .int 0], vm := .none }]
def classes : Array Class := #[k0, k1, k2, k3, k4, k5, k6, k7, k8, k9, k10, k11, k12, k13, k14, k15, k16, k17, k18, k19, k20, k21, k22, k23, k24, k25, k26]
def interned : List (Array UInt16 × Addr) := []
def slotsUsed : Nat := 43
def theMethod : MethodId := ⟨1, 1⟩
def args0 : Array Value := #[.int 2, .int 65, .int 300, .int 66]
def aboutOver (below : List Frame) : State where
  vm := { classes := classes, interned := interned.toArray }
  heap := heap
  slotsUsed := slotsUsed
  threads := #[{ frames := .invoking theMethod args0 :: below }]
def below0 : List Frame := [.native { method := ⟨0, 0⟩, args := #[] }]
def about1 : State := aboutOver below0
def p0 : Program := .bare "" "" ""
def e0 : Env := launch0.env 0 0 0
theorem w_frames : about1.frames = Frame.invoking theMethod args0 :: below0 := rfl
set_option maxRecDepth 65536 in
theorem w_args : argsFit about1.vm theMethod args0 = true := by decide +kernel
set_option maxRecDepth 65536 in
theorem w_heap : heapFits about1 = true := by decide +kernel
set_option maxRecDepth 65536 in
theorem w_runnable : about1.curStatus? = some .runnable := by decide +kernel
set_option maxRecDepth 65536 in
theorem w_alone : about1.alone = true := by decide +kernel
set_option maxRecDepth 65536 in
theorem w_named : about1.methodNamed? x = some theMethod := by decide +kernel
set_option maxRecDepth 65536 in
theorem w_hears : about1.hears theMethod below0 = true := by decide +kernel
set_option maxRecDepth 65536 in
theorem w_ripe : about1.ripe theMethod args0 below0 = true := by decide +kernel
theorem w_running : about1.status = .running := rfl
set_option maxRecDepth 65536 in
theorem w_room : about1.hasRoom e0.platform room_1 = true :=
  launch0.hasRoom_least _ room_1 (by decide +kernel) (by decide +kernel) (by decide +kernel) (by decide +kernel) (by decide +kernel) (by decide +kernel)
theorem allAtoms_all (ts : List Jvm.Cond) (a : Array Jvm.Value) (st : Jvm.State) : (allAtoms ts).before a st = ts.all (fun c => c.before a st) := by
  induction ts with
  | nil => rfl
  | cons c t ih =>
    show (Jvm.Cond.and c (allAtoms t)).before a st = _
    rw [Jvm.Cond.before_and, ih, List.all_cons]
def words1 : List Jvm.Cond := Jvm.Cond.code x code maxLocals ret :: tables_1
/-- a 'code' word, met by the world's own term for the bytes: nothing is compared byte by byte -/
theorem code_word {y : MethodName} {bytes : ByteArray} {mx : Nat} {rt : Option FieldType} {a : Array Value} {s : State} {m : MethodId} {meth : Method} {c : Code} (h1 : s.methodNamed? y = some m) (h2 : s.vm.method? m = some meth) (h3 : meth.code = some c) (h4 : c.code = bytes)
    (h5 : (c.maxLocals == mx && c.exceptionTable.isEmpty && decide (c.maxStack ≤ mostOperands) && decide (meth.sig.returnType = rt) && !meth.locks && decide (parseMethodDescriptor y.desc = some meth.sig)) = true) : (Jvm.Cond.code y bytes mx rt).before a s = true := by
  simp only [Bool.and_eq_true, beq_iff_eq, Bool.not_eq_true', decide_eq_true_eq] at h5
  obtain ⟨⟨⟨⟨⟨g1, g2⟩, g3⟩, g4⟩, g5⟩, g6⟩ := h5
  simp [Cond.before, Cond.holds, Cond.value, h1, h2, h3, h4, g1, g2, g3, g4, g5, g6]
def isCode : Jvm.Cond → Bool
  | .code _ _ _ _ => true
  | _ => false
theorem all_split {L : List Jvm.Cond} {P : Jvm.Cond → Bool} (h1 : L.all (fun c => isCode c || P c) = true) (h2 : ∀ c ∈ L.filter isCode, P c = true) : L.all P = true := by
  refine List.all_eq_true.mpr fun c hc => ?_
  have h := List.all_eq_true.mp h1 c hc
  rcases Bool.eq_false_or_eq_true (isCode c) with hi | hi
  · exact h2 c (List.mem_filter.mpr ⟨hc, hi⟩)
  · simpa [hi] using h
set_option maxRecDepth 65536 in
theorem w_c0 : (Jvm.Cond.code x code maxLocals ret).before args0 about1 = true := code_word (m := ⟨1, 1⟩) (meth := k1m1) (c := k1c1) (by decide +kernel) rfl rfl rfl (by decide +kernel)
set_option maxRecDepth 65536 in
theorem w_c1 : (Jvm.Cond.code ({ cls := "java/lang/String", name := "<init>", desc := "([C)V" } : Jvm.MethodName) jdk_42_method_3_code (2 : Nat) (Option.none : Option Jvm.ClassFile.FieldType)).before args0 about1 = true := code_word (m := ⟨7, 1⟩) (meth := k7m1) (c := k7c1) (by decide +kernel) rfl rfl rfl (by decide +kernel)
set_option maxRecDepth 65536 in
theorem w_c2 : (Jvm.Cond.code ({ cls := "java/lang/String", name := "<init>", desc := "([CIILjava/lang/Void;)V" } : Jvm.MethodName) jdk_42_method_149_code (6 : Nat) (Option.none : Option Jvm.ClassFile.FieldType)).before args0 about1 = true := code_word (m := ⟨7, 6⟩) (meth := k7m6) (c := k7c6) (by decide +kernel) rfl rfl rfl (by decide +kernel)
set_option maxRecDepth 65536 in
theorem w_c3 : (Jvm.Cond.code ({ cls := "java/lang/Object", name := "<init>", desc := "()V" } : Jvm.MethodName) object_method_1_code (1 : Nat) (Option.none : Option Jvm.ClassFile.FieldType)).before args0 about1 = true := code_word (m := ⟨0, 0⟩) (meth := k0m0) (c := k0c0) (by decide +kernel) rfl rfl rfl (by decide +kernel)
set_option maxRecDepth 65536 in
theorem w_c4 : (Jvm.Cond.code ({ cls := "com/example/rochester/rochester/JdqlLexer$Token", name := "<init>", desc := "(Lcom/example/rochester/rochester/JdqlLexer$Kind;Ljava/lang/String;II)V" } : Jvm.MethodName) prog_12_method_1_code (5 : Nat) (Option.none : Option Jvm.ClassFile.FieldType)).before args0 about1 = true := code_word (m := ⟨9, 0⟩) (meth := k9m0) (c := k9c0) (by decide +kernel) rfl rfl rfl (by decide +kernel)
set_option maxRecDepth 65536 in
theorem w_c5 : (Jvm.Cond.code ({ cls := "java/lang/Record", name := "<init>", desc := "()V" } : Jvm.MethodName) jdk_30_method_1_code (1 : Nat) (Option.none : Option Jvm.ClassFile.FieldType)).before args0 about1 = true := code_word (m := ⟨8, 0⟩) (meth := k8m0) (c := k8c0) (by decide +kernel) rfl rfl rfl (by decide +kernel)
set_option maxRecDepth 65536 in
theorem w_c6 : (Jvm.Cond.code ({ cls := "com/example/rochester/rochester/JdqlLexer$Token", name := "lowerCase", desc := "()Ljava/lang/String;" } : Jvm.MethodName) prog_12_method_5_code (6 : Nat) (Option.some (Jvm.ClassFile.FieldType.object "java/lang/String"))).before args0 about1 = true := code_word (m := ⟨9, 1⟩) (meth := k9m1) (c := k9c1) (by decide +kernel) rfl rfl rfl (by decide +kernel)
set_option maxRecDepth 65536 in
theorem w_c7 : (Jvm.Cond.code ({ cls := "java/lang/String", name := "length", desc := "()I" } : Jvm.MethodName) jdk_42_method_54_code (1 : Nat) (Option.some Jvm.ClassFile.FieldType.int)).before args0 about1 = true := code_word (m := ⟨7, 3⟩) (meth := k7m3) (c := k7c3) (by decide +kernel) rfl rfl rfl (by decide +kernel)
set_option maxRecDepth 65536 in
theorem w_c8 : (Jvm.Cond.code ({ cls := "java/lang/String", name := "coder", desc := "()B" } : Jvm.MethodName) jdk_42_method_152_code (1 : Nat) (Option.some Jvm.ClassFile.FieldType.byte)).before args0 about1 = true := code_word (m := ⟨7, 8⟩) (meth := k7m8) (c := k7c8) (by decide +kernel) rfl rfl rfl (by decide +kernel)
set_option maxRecDepth 65536 in
theorem w_c9 : (Jvm.Cond.code ({ cls := "java/lang/StringBuilder", name := "<init>", desc := "(I)V" } : Jvm.MethodName) jdk_67_method_2_code (2 : Nat) (Option.none : Option Jvm.ClassFile.FieldType)).before args0 about1 = true := code_word (m := ⟨14, 1⟩) (meth := k14m1) (c := k14c1) (by decide +kernel) rfl rfl rfl (by decide +kernel)
set_option maxRecDepth 65536 in
theorem w_c10 : (Jvm.Cond.code ({ cls := "java/lang/AbstractStringBuilder", name := "<init>", desc := "(I)V" } : Jvm.MethodName) jdk_68_method_2_code (2 : Nat) (Option.none : Option Jvm.ClassFile.FieldType)).before args0 about1 = true := code_word (m := ⟨13, 1⟩) (meth := k13m1) (c := k13c1) (by decide +kernel) rfl rfl rfl (by decide +kernel)
set_option maxRecDepth 65536 in
theorem w_c11 : (Jvm.Cond.code ({ cls := "java/lang/String", name := "toCharArray", desc := "()[C" } : Jvm.MethodName) jdk_42_method_129_code (1 : Nat) (Option.some (Jvm.ClassFile.FieldType.array Jvm.ClassFile.FieldType.char))).before args0 about1 = true := code_word (m := ⟨7, 5⟩) (meth := k7m5) (c := k7c5) (by decide +kernel) rfl rfl rfl (by decide +kernel)
set_option maxRecDepth 65536 in
theorem w_c12 : (Jvm.Cond.code ({ cls := "java/lang/String", name := "isLatin1", desc := "()Z" } : Jvm.MethodName) jdk_42_method_154_code (1 : Nat) (Option.some Jvm.ClassFile.FieldType.boolean)).before args0 about1 = true := code_word (m := ⟨7, 9⟩) (meth := k7m9) (c := k7c9) (by decide +kernel) rfl rfl rfl (by decide +kernel)
set_option maxRecDepth 65536 in
theorem w_c13 : (Jvm.Cond.code ({ cls := "java/lang/StringLatin1", name := "toChars", desc := "([B)[C" } : Jvm.MethodName) jdk_43_method_9_code (2 : Nat) (Option.some (Jvm.ClassFile.FieldType.array Jvm.ClassFile.FieldType.char))).before args0 about1 = true := code_word (m := ⟨15, 3⟩) (meth := k15m3) (c := k15c3) (by decide +kernel) rfl rfl rfl (by decide +kernel)
set_option maxRecDepth 65536 in
theorem w_c14 : (Jvm.Cond.code ({ cls := "java/lang/StringLatin1", name := "inflate", desc := "([BI[CII)V" } : Jvm.MethodName) jdk_43_method_49_code (6 : Nat) (Option.none : Option Jvm.ClassFile.FieldType)).before args0 about1 = true := code_word (m := ⟨15, 4⟩) (meth := k15m4) (c := k15c4) (by decide +kernel) rfl rfl rfl (by decide +kernel)
set_option maxRecDepth 65536 in
theorem w_c15 : (Jvm.Cond.code ({ cls := "java/lang/StringBuilder", name := "toString", desc := "()Ljava/lang/String;" } : Jvm.MethodName) jdk_67_method_42_code (1 : Nat) (Option.some (Jvm.ClassFile.FieldType.object "java/lang/String"))).before args0 about1 = true := code_word (m := ⟨14, 3⟩) (meth := k14m3) (c := k14c3) (by decide +kernel) rfl rfl rfl (by decide +kernel)
set_option maxRecDepth 65536 in
theorem w_c16 : (Jvm.Cond.code ({ cls := "java/lang/String", name := "<init>", desc := "(Ljava/lang/StringBuilder;)V" } : Jvm.MethodName) jdk_42_method_53_code (2 : Nat) (Option.none : Option Jvm.ClassFile.FieldType)).before args0 about1 = true := code_word (m := ⟨7, 2⟩) (meth := k7m2) (c := k7c2) (by decide +kernel) rfl rfl rfl (by decide +kernel)
set_option maxRecDepth 65536 in
theorem w_c17 : (Jvm.Cond.code ({ cls := "java/lang/String", name := "<init>", desc := "(Ljava/lang/AbstractStringBuilder;Ljava/lang/Void;)V" } : Jvm.MethodName) jdk_42_method_150_code (5 : Nat) (Option.none : Option Jvm.ClassFile.FieldType)).before args0 about1 = true := code_word (m := ⟨7, 7⟩) (meth := k7m7) (c := k7c7) (by decide +kernel) rfl rfl rfl (by decide +kernel)
set_option maxRecDepth 65536 in
theorem w_c18 : (Jvm.Cond.code ({ cls := "java/lang/AbstractStringBuilder", name := "getValue", desc := "()[B" } : Jvm.MethodName) jdk_68_method_64_code (1 : Nat) (Option.some (Jvm.ClassFile.FieldType.array Jvm.ClassFile.FieldType.byte))).before args0 about1 = true := code_word (m := ⟨13, 6⟩) (meth := k13m6) (c := k13c6) (by decide +kernel) rfl rfl rfl (by decide +kernel)
set_option maxRecDepth 65536 in
theorem w_c19 : (Jvm.Cond.code ({ cls := "java/lang/StringBuilder", name := "length", desc := "()I" } : Jvm.MethodName) jdk_67_method_93_code (1 : Nat) (Option.some Jvm.ClassFile.FieldType.int)).before args0 about1 = true := code_word (m := ⟨14, 4⟩) (meth := k14m4) (c := k14c4) (by decide +kernel) rfl rfl rfl (by decide +kernel)
set_option maxRecDepth 65536 in
theorem w_c20 : (Jvm.Cond.code ({ cls := "java/lang/AbstractStringBuilder", name := "length", desc := "()I" } : Jvm.MethodName) jdk_68_method_6_code (1 : Nat) (Option.some Jvm.ClassFile.FieldType.int)).before args0 about1 = true := code_word (m := ⟨13, 2⟩) (meth := k13m2) (c := k13c2) (by decide +kernel) rfl rfl rfl (by decide +kernel)
set_option maxRecDepth 65536 in
theorem w_c21 : (Jvm.Cond.code ({ cls := "java/lang/AbstractStringBuilder", name := "isLatin1", desc := "()Z" } : Jvm.MethodName) jdk_68_method_68_code (1 : Nat) (Option.some Jvm.ClassFile.FieldType.boolean)).before args0 about1 = true := code_word (m := ⟨13, 7⟩) (meth := k13m7) (c := k13c7) (by decide +kernel) rfl rfl rfl (by decide +kernel)
set_option maxRecDepth 65536 in
theorem w_c22 : (Jvm.Cond.code ({ cls := "java/util/Arrays", name := "copyOfRange", desc := "([BII)[B" } : Jvm.MethodName) jdk_65_method_132_code (3 : Nat) (Option.some (Jvm.ClassFile.FieldType.array Jvm.ClassFile.FieldType.byte))).before args0 about1 = true := code_word (m := ⟨16, 1⟩) (meth := k16m1) (c := k16c1) (by decide +kernel) rfl rfl rfl (by decide +kernel)
set_option maxRecDepth 65536 in
theorem w_c23 : (Jvm.Cond.code ({ cls := "java/lang/StringUTF16", name := "compress", desc := "([CII)[B" } : Jvm.MethodName) jdk_52_method_16_code (6 : Nat) (Option.some (Jvm.ClassFile.FieldType.array Jvm.ClassFile.FieldType.byte))).before args0 about1 = true := code_word (m := ⟨18, 9⟩) (meth := k18m9) (c := k18c9) (by decide +kernel) rfl rfl rfl (by decide +kernel)
set_option maxRecDepth 65536 in
theorem w_c24 : (Jvm.Cond.code ({ cls := "java/lang/StringUTF16", name := "compress", desc := "([CI[BII)I" } : Jvm.MethodName) jdk_52_method_21_code (7 : Nat) (Option.some Jvm.ClassFile.FieldType.int)).before args0 about1 = true := code_word (m := ⟨18, 10⟩) (meth := k18m10) (c := k18c10) (by decide +kernel) rfl rfl rfl (by decide +kernel)
set_option maxRecDepth 65536 in
theorem w_c25 : (Jvm.Cond.code ({ cls := "java/lang/StringUTF16", name := "coderFromArrayLen", desc := "([BI)B" } : Jvm.MethodName) jdk_52_method_15_code (2 : Nat) (Option.some Jvm.ClassFile.FieldType.byte)).before args0 about1 = true := code_word (m := ⟨18, 8⟩) (meth := k18m8) (c := k18c8) (by decide +kernel) rfl rfl rfl (by decide +kernel)
set_option maxRecDepth 65536 in
theorem w_c26 : (Jvm.Cond.code ({ cls := "java/lang/StringBuilder", name := "append", desc := "(C)Ljava/lang/StringBuilder;" } : Jvm.MethodName) jdk_67_method_14_code (2 : Nat) (Option.some (Jvm.ClassFile.FieldType.object "java/lang/StringBuilder"))).before args0 about1 = true := code_word (m := ⟨14, 2⟩) (meth := k14m2) (c := k14c2) (by decide +kernel) rfl rfl rfl (by decide +kernel)
set_option maxRecDepth 65536 in
theorem w_c27 : (Jvm.Cond.code ({ cls := "java/lang/AbstractStringBuilder", name := "append", desc := "(C)Ljava/lang/AbstractStringBuilder;" } : Jvm.MethodName) jdk_68_method_31_code (2 : Nat) (Option.some (Jvm.ClassFile.FieldType.object "java/lang/AbstractStringBuilder"))).before args0 about1 = true := code_word (m := ⟨13, 5⟩) (meth := k13m5) (c := k13c5) (by decide +kernel) rfl rfl rfl (by decide +kernel)
set_option maxRecDepth 65536 in
theorem w_c28 : (Jvm.Cond.code ({ cls := "java/lang/AbstractStringBuilder", name := "ensureCapacityInternal", desc := "(I)V" } : Jvm.MethodName) jdk_68_method_9_code (3 : Nat) (Option.none : Option Jvm.ClassFile.FieldType)).before args0 about1 = true := code_word (m := ⟨13, 3⟩) (meth := k13m3) (c := k13c3) (by decide +kernel) rfl rfl rfl (by decide +kernel)
set_option maxRecDepth 65536 in
theorem w_c29 : (Jvm.Cond.code ({ cls := "java/lang/StringLatin1", name := "canEncode", desc := "(C)Z" } : Jvm.MethodName) jdk_43_method_3_code (1 : Nat) (Option.some Jvm.ClassFile.FieldType.boolean)).before args0 about1 = true := code_word (m := ⟨15, 2⟩) (meth := k15m2) (c := k15c2) (by decide +kernel) rfl rfl rfl (by decide +kernel)
set_option maxRecDepth 65536 in
theorem w_c30 : (Jvm.Cond.code ({ cls := "java/lang/String", name := "charAt", desc := "(I)C" } : Jvm.MethodName) jdk_42_method_56_code (2 : Nat) (Option.some Jvm.ClassFile.FieldType.char)).before args0 about1 = true := code_word (m := ⟨7, 4⟩) (meth := k7m4) (c := k7c4) (by decide +kernel) rfl rfl rfl (by decide +kernel)
set_option maxRecDepth 65536 in
theorem w_c31 : (Jvm.Cond.code ({ cls := "java/lang/StringLatin1", name := "charAt", desc := "([BI)C" } : Jvm.MethodName) jdk_43_method_2_code (2 : Nat) (Option.some Jvm.ClassFile.FieldType.char)).before args0 about1 = true := code_word (m := ⟨15, 1⟩) (meth := k15m1) (c := k15c1) (by decide +kernel) rfl rfl rfl (by decide +kernel)
set_option maxRecDepth 65536 in
theorem w_c32 : (Jvm.Cond.code ({ cls := "java/lang/String", name := "checkIndex", desc := "(II)V" } : Jvm.MethodName) jdk_42_method_155_code (2 : Nat) (Option.none : Option Jvm.ClassFile.FieldType)).before args0 about1 = true := code_word (m := ⟨7, 10⟩) (meth := k7m10) (c := k7c10) (by decide +kernel) rfl rfl rfl (by decide +kernel)
set_option maxRecDepth 65536 in
theorem w_c33 : (Jvm.Cond.code ({ cls := "jdk/internal/util/Preconditions", name := "checkIndex", desc := "(IILjava/util/function/BiFunction;)I" } : Jvm.MethodName) jdk_41_method_11_code (3 : Nat) (Option.some Jvm.ClassFile.FieldType.int)).before args0 about1 = true := code_word (m := ⟨19, 1⟩) (meth := k19m1) (c := k19c1) (by decide +kernel) rfl rfl rfl (by decide +kernel)
set_option maxRecDepth 65536 in
theorem w_c34 : (Jvm.Cond.code ({ cls := "com/example/rochester/rochester/TokenLowerCasePinLaw", name := "expected", desc := "(C)C" } : Jvm.MethodName) method_3_code (2 : Nat) (Option.some Jvm.ClassFile.FieldType.char)).before args0 about1 = true := code_word (m := ⟨1, 2⟩) (meth := k1m2) (c := k1c2) (by decide +kernel) rfl rfl rfl (by decide +kernel)
set_option maxRecDepth 65536 in
theorem w_c35 : (Jvm.Cond.code ({ cls := "java/lang/StringUTF16", name := "toBytes", desc := "([CII)[B" } : Jvm.MethodName) jdk_52_method_14_code (5 : Nat) (Option.some (Jvm.ClassFile.FieldType.array Jvm.ClassFile.FieldType.byte))).before args0 about1 = true := code_word (m := ⟨18, 7⟩) (meth := k18m7) (c := k18c7) (by decide +kernel) rfl rfl rfl (by decide +kernel)
set_option maxRecDepth 65536 in
theorem w_c36 : (Jvm.Cond.code ({ cls := "java/lang/StringUTF16", name := "newBytesFor", desc := "(I)[B" } : Jvm.MethodName) jdk_52_method_2_code (1 : Nat) (Option.some (Jvm.ClassFile.FieldType.array Jvm.ClassFile.FieldType.byte))).before args0 about1 = true := code_word (m := ⟨18, 1⟩) (meth := k18m1) (c := k18c1) (by decide +kernel) rfl rfl rfl (by decide +kernel)
set_option maxRecDepth 65536 in
theorem w_c37 : (Jvm.Cond.code ({ cls := "java/lang/StringUTF16", name := "newBytesLength", desc := "(I)I" } : Jvm.MethodName) jdk_52_method_3_code (1 : Nat) (Option.some Jvm.ClassFile.FieldType.int)).before args0 about1 = true := code_word (m := ⟨18, 2⟩) (meth := k18m2) (c := k18c2) (by decide +kernel) rfl rfl rfl (by decide +kernel)
set_option maxRecDepth 65536 in
theorem w_c38 : (Jvm.Cond.code ({ cls := "java/lang/StringUTF16", name := "putChar", desc := "([BII)V" } : Jvm.MethodName) jdk_52_method_4_code (3 : Nat) (Option.none : Option Jvm.ClassFile.FieldType)).before args0 about1 = true := code_word (m := ⟨18, 3⟩) (meth := k18m3) (c := k18c3) (by decide +kernel) rfl rfl rfl (by decide +kernel)
set_option maxRecDepth 65536 in
theorem w_c39 : (Jvm.Cond.code ({ cls := "java/lang/StringUTF16", name := "getChar", desc := "([BI)C" } : Jvm.MethodName) jdk_52_method_5_code (2 : Nat) (Option.some Jvm.ClassFile.FieldType.char)).before args0 about1 = true := code_word (m := ⟨18, 4⟩) (meth := k18m4) (c := k18c4) (by decide +kernel) rfl rfl rfl (by decide +kernel)
set_option maxRecDepth 65536 in
theorem w_c40 : (Jvm.Cond.code ({ cls := "java/lang/StringUTF16", name := "toChars", desc := "([B)[C" } : Jvm.MethodName) jdk_52_method_13_code (2 : Nat) (Option.some (Jvm.ClassFile.FieldType.array Jvm.ClassFile.FieldType.char))).before args0 about1 = true := code_word (m := ⟨18, 6⟩) (meth := k18m6) (c := k18c6) (by decide +kernel) rfl rfl rfl (by decide +kernel)
set_option maxRecDepth 65536 in
theorem w_c41 : (Jvm.Cond.code ({ cls := "java/lang/StringUTF16", name := "getChars", desc := "([BII[CI)V" } : Jvm.MethodName) jdk_52_method_26_code (6 : Nat) (Option.none : Option Jvm.ClassFile.FieldType)).before args0 about1 = true := code_word (m := ⟨18, 11⟩) (meth := k18m11) (c := k18c11) (by decide +kernel) rfl rfl rfl (by decide +kernel)
set_option maxRecDepth 65536 in
theorem w_c42 : (Jvm.Cond.code ({ cls := "java/lang/StringUTF16", name := "checkBoundsOffCount", desc := "(II[B)V" } : Jvm.MethodName) jdk_52_method_94_code (3 : Nat) (Option.none : Option Jvm.ClassFile.FieldType)).before args0 about1 = true := code_word (m := ⟨18, 16⟩) (meth := k18m16) (c := k18c16) (by decide +kernel) rfl rfl rfl (by decide +kernel)
set_option maxRecDepth 65536 in
theorem w_c43 : (Jvm.Cond.code ({ cls := "java/lang/StringUTF16", name := "length", desc := "([B)I" } : Jvm.MethodName) jdk_52_method_6_code (1 : Nat) (Option.some Jvm.ClassFile.FieldType.int)).before args0 about1 = true := code_word (m := ⟨18, 5⟩) (meth := k18m5) (c := k18c5) (by decide +kernel) rfl rfl rfl (by decide +kernel)
set_option maxRecDepth 65536 in
theorem w_c44 : (Jvm.Cond.code ({ cls := "java/lang/String", name := "checkBoundsOffCount", desc := "(III)I" } : Jvm.MethodName) jdk_42_method_157_code (3 : Nat) (Option.some Jvm.ClassFile.FieldType.int)).before args0 about1 = true := code_word (m := ⟨7, 11⟩) (meth := k7m11) (c := k7c11) (by decide +kernel) rfl rfl rfl (by decide +kernel)
set_option maxRecDepth 65536 in
theorem w_c45 : (Jvm.Cond.code ({ cls := "jdk/internal/util/Preconditions", name := "checkFromIndexSize", desc := "(IIILjava/util/function/BiFunction;)I" } : Jvm.MethodName) jdk_41_method_13_code (4 : Nat) (Option.some Jvm.ClassFile.FieldType.int)).before args0 about1 = true := code_word (m := ⟨19, 2⟩) (meth := k19m2) (c := k19c2) (by decide +kernel) rfl rfl rfl (by decide +kernel)
set_option maxRecDepth 65536 in
theorem w_c46 : (Jvm.Cond.code ({ cls := "java/lang/AbstractStringBuilder", name := "inflate", desc := "()V" } : Jvm.MethodName) jdk_68_method_11_code (2 : Nat) (Option.none : Option Jvm.ClassFile.FieldType)).before args0 about1 = true := code_word (m := ⟨13, 4⟩) (meth := k13m4) (c := k13c4) (by decide +kernel) rfl rfl rfl (by decide +kernel)
set_option maxRecDepth 65536 in
theorem w_c47 : (Jvm.Cond.code ({ cls := "java/lang/StringLatin1", name := "inflate", desc := "([BI[BII)V" } : Jvm.MethodName) jdk_43_method_50_code (5 : Nat) (Option.none : Option Jvm.ClassFile.FieldType)).before args0 about1 = true := code_word (m := ⟨15, 5⟩) (meth := k15m5) (c := k15c5) (by decide +kernel) rfl rfl rfl (by decide +kernel)
set_option maxRecDepth 65536 in
theorem w_c48 : (Jvm.Cond.code ({ cls := "java/lang/StringUTF16", name := "inflate", desc := "([BI[BII)V" } : Jvm.MethodName) jdk_52_method_86_code (6 : Nat) (Option.none : Option Jvm.ClassFile.FieldType)).before args0 about1 = true := code_word (m := ⟨18, 14⟩) (meth := k18m14) (c := k18c14) (by decide +kernel) rfl rfl rfl (by decide +kernel)
set_option maxRecDepth 65536 in
theorem w_c49 : (Jvm.Cond.code ({ cls := "java/lang/StringUTF16", name := "putCharSB", desc := "([BII)V" } : Jvm.MethodName) jdk_52_method_71_code (3 : Nat) (Option.none : Option Jvm.ClassFile.FieldType)).before args0 about1 = true := code_word (m := ⟨18, 12⟩) (meth := k18m12) (c := k18c12) (by decide +kernel) rfl rfl rfl (by decide +kernel)
set_option maxRecDepth 65536 in
theorem w_c50 : (Jvm.Cond.code ({ cls := "java/lang/StringUTF16", name := "checkIndex", desc := "(I[B)V" } : Jvm.MethodName) jdk_52_method_91_code (2 : Nat) (Option.none : Option Jvm.ClassFile.FieldType)).before args0 about1 = true := code_word (m := ⟨18, 15⟩) (meth := k18m15) (c := k18c15) (by decide +kernel) rfl rfl rfl (by decide +kernel)
set_option maxRecDepth 65536 in
theorem w_c51 : (Jvm.Cond.code ({ cls := "java/lang/StringUTF16", name := "charAt", desc := "([BI)C" } : Jvm.MethodName) jdk_52_method_83_code (2 : Nat) (Option.some Jvm.ClassFile.FieldType.char)).before args0 about1 = true := code_word (m := ⟨18, 13⟩) (meth := k18m13) (c := k18c13) (by decide +kernel) rfl rfl rfl (by decide +kernel)
def codes1 : List Jvm.Cond := [Jvm.Cond.code x code maxLocals ret, Jvm.Cond.code ({ cls := "java/lang/String", name := "<init>", desc := "([C)V" } : Jvm.MethodName) jdk_42_method_3_code (2 : Nat) (Option.none : Option Jvm.ClassFile.FieldType), Jvm.Cond.code ({ cls := "java/lang/String", name := "<init>", desc := "([CIILjava/lang/Void;)V" } : Jvm.MethodName) jdk_42_method_149_code (6 : Nat) (Option.none : Option Jvm.ClassFile.FieldType), Jvm.Cond.code ({ cls := "java/lang/Object", name := "<init>", desc := "()V" } : Jvm.MethodName) object_method_1_code (1 : Nat) (Option.none : Option Jvm.ClassFile.FieldType), Jvm.Cond.code ({ cls := "com/example/rochester/rochester/JdqlLexer$Token", name := "<init>", desc := "(Lcom/example/rochester/rochester/JdqlLexer$Kind;Ljava/lang/String;II)V" } : Jvm.MethodName) prog_12_method_1_code (5 : Nat) (Option.none : Option Jvm.ClassFile.FieldType), Jvm.Cond.code ({ cls := "java/lang/Record", name := "<init>", desc := "()V" } : Jvm.MethodName) jdk_30_method_1_code (1 : Nat) (Option.none : Option Jvm.ClassFile.FieldType), Jvm.Cond.code ({ cls := "com/example/rochester/rochester/JdqlLexer$Token", name := "lowerCase", desc := "()Ljava/lang/String;" } : Jvm.MethodName) prog_12_method_5_code (6 : Nat) (Option.some (Jvm.ClassFile.FieldType.object "java/lang/String")), Jvm.Cond.code ({ cls := "java/lang/String", name := "length", desc := "()I" } : Jvm.MethodName) jdk_42_method_54_code (1 : Nat) (Option.some Jvm.ClassFile.FieldType.int), Jvm.Cond.code ({ cls := "java/lang/String", name := "coder", desc := "()B" } : Jvm.MethodName) jdk_42_method_152_code (1 : Nat) (Option.some Jvm.ClassFile.FieldType.byte), Jvm.Cond.code ({ cls := "java/lang/StringBuilder", name := "<init>", desc := "(I)V" } : Jvm.MethodName) jdk_67_method_2_code (2 : Nat) (Option.none : Option Jvm.ClassFile.FieldType), Jvm.Cond.code ({ cls := "java/lang/AbstractStringBuilder", name := "<init>", desc := "(I)V" } : Jvm.MethodName) jdk_68_method_2_code (2 : Nat) (Option.none : Option Jvm.ClassFile.FieldType), Jvm.Cond.code ({ cls := "java/lang/String", name := "toCharArray", desc := "()[C" } : Jvm.MethodName) jdk_42_method_129_code (1 : Nat) (Option.some (Jvm.ClassFile.FieldType.array Jvm.ClassFile.FieldType.char)), Jvm.Cond.code ({ cls := "java/lang/String", name := "isLatin1", desc := "()Z" } : Jvm.MethodName) jdk_42_method_154_code (1 : Nat) (Option.some Jvm.ClassFile.FieldType.boolean), Jvm.Cond.code ({ cls := "java/lang/StringLatin1", name := "toChars", desc := "([B)[C" } : Jvm.MethodName) jdk_43_method_9_code (2 : Nat) (Option.some (Jvm.ClassFile.FieldType.array Jvm.ClassFile.FieldType.char)), Jvm.Cond.code ({ cls := "java/lang/StringLatin1", name := "inflate", desc := "([BI[CII)V" } : Jvm.MethodName) jdk_43_method_49_code (6 : Nat) (Option.none : Option Jvm.ClassFile.FieldType), Jvm.Cond.code ({ cls := "java/lang/StringBuilder", name := "toString", desc := "()Ljava/lang/String;" } : Jvm.MethodName) jdk_67_method_42_code (1 : Nat) (Option.some (Jvm.ClassFile.FieldType.object "java/lang/String")), Jvm.Cond.code ({ cls := "java/lang/String", name := "<init>", desc := "(Ljava/lang/StringBuilder;)V" } : Jvm.MethodName) jdk_42_method_53_code (2 : Nat) (Option.none : Option Jvm.ClassFile.FieldType), Jvm.Cond.code ({ cls := "java/lang/String", name := "<init>", desc := "(Ljava/lang/AbstractStringBuilder;Ljava/lang/Void;)V" } : Jvm.MethodName) jdk_42_method_150_code (5 : Nat) (Option.none : Option Jvm.ClassFile.FieldType), Jvm.Cond.code ({ cls := "java/lang/AbstractStringBuilder", name := "getValue", desc := "()[B" } : Jvm.MethodName) jdk_68_method_64_code (1 : Nat) (Option.some (Jvm.ClassFile.FieldType.array Jvm.ClassFile.FieldType.byte)), Jvm.Cond.code ({ cls := "java/lang/StringBuilder", name := "length", desc := "()I" } : Jvm.MethodName) jdk_67_method_93_code (1 : Nat) (Option.some Jvm.ClassFile.FieldType.int), Jvm.Cond.code ({ cls := "java/lang/AbstractStringBuilder", name := "length", desc := "()I" } : Jvm.MethodName) jdk_68_method_6_code (1 : Nat) (Option.some Jvm.ClassFile.FieldType.int), Jvm.Cond.code ({ cls := "java/lang/AbstractStringBuilder", name := "isLatin1", desc := "()Z" } : Jvm.MethodName) jdk_68_method_68_code (1 : Nat) (Option.some Jvm.ClassFile.FieldType.boolean), Jvm.Cond.code ({ cls := "java/util/Arrays", name := "copyOfRange", desc := "([BII)[B" } : Jvm.MethodName) jdk_65_method_132_code (3 : Nat) (Option.some (Jvm.ClassFile.FieldType.array Jvm.ClassFile.FieldType.byte)), Jvm.Cond.code ({ cls := "java/lang/StringUTF16", name := "compress", desc := "([CII)[B" } : Jvm.MethodName) jdk_52_method_16_code (6 : Nat) (Option.some (Jvm.ClassFile.FieldType.array Jvm.ClassFile.FieldType.byte)), Jvm.Cond.code ({ cls := "java/lang/StringUTF16", name := "compress", desc := "([CI[BII)I" } : Jvm.MethodName) jdk_52_method_21_code (7 : Nat) (Option.some Jvm.ClassFile.FieldType.int), Jvm.Cond.code ({ cls := "java/lang/StringUTF16", name := "coderFromArrayLen", desc := "([BI)B" } : Jvm.MethodName) jdk_52_method_15_code (2 : Nat) (Option.some Jvm.ClassFile.FieldType.byte), Jvm.Cond.code ({ cls := "java/lang/StringBuilder", name := "append", desc := "(C)Ljava/lang/StringBuilder;" } : Jvm.MethodName) jdk_67_method_14_code (2 : Nat) (Option.some (Jvm.ClassFile.FieldType.object "java/lang/StringBuilder")), Jvm.Cond.code ({ cls := "java/lang/AbstractStringBuilder", name := "append", desc := "(C)Ljava/lang/AbstractStringBuilder;" } : Jvm.MethodName) jdk_68_method_31_code (2 : Nat) (Option.some (Jvm.ClassFile.FieldType.object "java/lang/AbstractStringBuilder")), Jvm.Cond.code ({ cls := "java/lang/AbstractStringBuilder", name := "ensureCapacityInternal", desc := "(I)V" } : Jvm.MethodName) jdk_68_method_9_code (3 : Nat) (Option.none : Option Jvm.ClassFile.FieldType), Jvm.Cond.code ({ cls := "java/lang/StringLatin1", name := "canEncode", desc := "(C)Z" } : Jvm.MethodName) jdk_43_method_3_code (1 : Nat) (Option.some Jvm.ClassFile.FieldType.boolean), Jvm.Cond.code ({ cls := "java/lang/String", name := "charAt", desc := "(I)C" } : Jvm.MethodName) jdk_42_method_56_code (2 : Nat) (Option.some Jvm.ClassFile.FieldType.char), Jvm.Cond.code ({ cls := "java/lang/StringLatin1", name := "charAt", desc := "([BI)C" } : Jvm.MethodName) jdk_43_method_2_code (2 : Nat) (Option.some Jvm.ClassFile.FieldType.char), Jvm.Cond.code ({ cls := "java/lang/String", name := "checkIndex", desc := "(II)V" } : Jvm.MethodName) jdk_42_method_155_code (2 : Nat) (Option.none : Option Jvm.ClassFile.FieldType), Jvm.Cond.code ({ cls := "jdk/internal/util/Preconditions", name := "checkIndex", desc := "(IILjava/util/function/BiFunction;)I" } : Jvm.MethodName) jdk_41_method_11_code (3 : Nat) (Option.some Jvm.ClassFile.FieldType.int), Jvm.Cond.code ({ cls := "com/example/rochester/rochester/TokenLowerCasePinLaw", name := "expected", desc := "(C)C" } : Jvm.MethodName) method_3_code (2 : Nat) (Option.some Jvm.ClassFile.FieldType.char), Jvm.Cond.code ({ cls := "java/lang/StringUTF16", name := "toBytes", desc := "([CII)[B" } : Jvm.MethodName) jdk_52_method_14_code (5 : Nat) (Option.some (Jvm.ClassFile.FieldType.array Jvm.ClassFile.FieldType.byte)), Jvm.Cond.code ({ cls := "java/lang/StringUTF16", name := "newBytesFor", desc := "(I)[B" } : Jvm.MethodName) jdk_52_method_2_code (1 : Nat) (Option.some (Jvm.ClassFile.FieldType.array Jvm.ClassFile.FieldType.byte)), Jvm.Cond.code ({ cls := "java/lang/StringUTF16", name := "newBytesLength", desc := "(I)I" } : Jvm.MethodName) jdk_52_method_3_code (1 : Nat) (Option.some Jvm.ClassFile.FieldType.int), Jvm.Cond.code ({ cls := "java/lang/StringUTF16", name := "putChar", desc := "([BII)V" } : Jvm.MethodName) jdk_52_method_4_code (3 : Nat) (Option.none : Option Jvm.ClassFile.FieldType), Jvm.Cond.code ({ cls := "java/lang/StringUTF16", name := "getChar", desc := "([BI)C" } : Jvm.MethodName) jdk_52_method_5_code (2 : Nat) (Option.some Jvm.ClassFile.FieldType.char), Jvm.Cond.code ({ cls := "java/lang/StringUTF16", name := "toChars", desc := "([B)[C" } : Jvm.MethodName) jdk_52_method_13_code (2 : Nat) (Option.some (Jvm.ClassFile.FieldType.array Jvm.ClassFile.FieldType.char)), Jvm.Cond.code ({ cls := "java/lang/StringUTF16", name := "getChars", desc := "([BII[CI)V" } : Jvm.MethodName) jdk_52_method_26_code (6 : Nat) (Option.none : Option Jvm.ClassFile.FieldType), Jvm.Cond.code ({ cls := "java/lang/StringUTF16", name := "checkBoundsOffCount", desc := "(II[B)V" } : Jvm.MethodName) jdk_52_method_94_code (3 : Nat) (Option.none : Option Jvm.ClassFile.FieldType), Jvm.Cond.code ({ cls := "java/lang/StringUTF16", name := "length", desc := "([B)I" } : Jvm.MethodName) jdk_52_method_6_code (1 : Nat) (Option.some Jvm.ClassFile.FieldType.int), Jvm.Cond.code ({ cls := "java/lang/String", name := "checkBoundsOffCount", desc := "(III)I" } : Jvm.MethodName) jdk_42_method_157_code (3 : Nat) (Option.some Jvm.ClassFile.FieldType.int), Jvm.Cond.code ({ cls := "jdk/internal/util/Preconditions", name := "checkFromIndexSize", desc := "(IIILjava/util/function/BiFunction;)I" } : Jvm.MethodName) jdk_41_method_13_code (4 : Nat) (Option.some Jvm.ClassFile.FieldType.int), Jvm.Cond.code ({ cls := "java/lang/AbstractStringBuilder", name := "inflate", desc := "()V" } : Jvm.MethodName) jdk_68_method_11_code (2 : Nat) (Option.none : Option Jvm.ClassFile.FieldType), Jvm.Cond.code ({ cls := "java/lang/StringLatin1", name := "inflate", desc := "([BI[BII)V" } : Jvm.MethodName) jdk_43_method_50_code (5 : Nat) (Option.none : Option Jvm.ClassFile.FieldType), Jvm.Cond.code ({ cls := "java/lang/StringUTF16", name := "inflate", desc := "([BI[BII)V" } : Jvm.MethodName) jdk_52_method_86_code (6 : Nat) (Option.none : Option Jvm.ClassFile.FieldType), Jvm.Cond.code ({ cls := "java/lang/StringUTF16", name := "putCharSB", desc := "([BII)V" } : Jvm.MethodName) jdk_52_method_71_code (3 : Nat) (Option.none : Option Jvm.ClassFile.FieldType), Jvm.Cond.code ({ cls := "java/lang/StringUTF16", name := "checkIndex", desc := "(I[B)V" } : Jvm.MethodName) jdk_52_method_91_code (2 : Nat) (Option.none : Option Jvm.ClassFile.FieldType), Jvm.Cond.code ({ cls := "java/lang/StringUTF16", name := "charAt", desc := "([BI)C" } : Jvm.MethodName) jdk_52_method_83_code (2 : Nat) (Option.some Jvm.ClassFile.FieldType.char)]
set_option maxRecDepth 65536 in
theorem codes_eq : words1.filter isCode = codes1 := rfl
theorem w_codes : ∀ c ∈ words1.filter isCode, c.before args0 about1 = true := by
  rw [codes_eq]
  intro c hc
  simp only [codes1, List.mem_cons, List.not_mem_nil, or_false] at hc
  rcases hc with rfl | rfl | rfl | rfl | rfl | rfl | rfl | rfl | rfl | rfl | rfl | rfl | rfl | rfl | rfl | rfl | rfl | rfl | rfl | rfl | rfl | rfl | rfl | rfl | rfl | rfl | rfl | rfl | rfl | rfl | rfl | rfl | rfl | rfl | rfl | rfl | rfl | rfl | rfl | rfl | rfl | rfl | rfl | rfl | rfl | rfl | rfl | rfl | rfl | rfl | rfl | rfl
  · exact w_c0
  · exact w_c1
  · exact w_c2
  · exact w_c3
  · exact w_c4
  · exact w_c5
  · exact w_c6
  · exact w_c7
  · exact w_c8
  · exact w_c9
  · exact w_c10
  · exact w_c11
  · exact w_c12
  · exact w_c13
  · exact w_c14
  · exact w_c15
  · exact w_c16
  · exact w_c17
  · exact w_c18
  · exact w_c19
  · exact w_c20
  · exact w_c21
  · exact w_c22
  · exact w_c23
  · exact w_c24
  · exact w_c25
  · exact w_c26
  · exact w_c27
  · exact w_c28
  · exact w_c29
  · exact w_c30
  · exact w_c31
  · exact w_c32
  · exact w_c33
  · exact w_c34
  · exact w_c35
  · exact w_c36
  · exact w_c37
  · exact w_c38
  · exact w_c39
  · exact w_c40
  · exact w_c41
  · exact w_c42
  · exact w_c43
  · exact w_c44
  · exact w_c45
  · exact w_c46
  · exact w_c47
  · exact w_c48
  · exact w_c49
  · exact w_c50
  · exact w_c51
set_option maxRecDepth 65536 in
theorem w_t1 : (words1.take 24).all (fun c => isCode c || c.before args0 about1) = true := by decide +kernel
set_option maxRecDepth 65536 in
theorem w_t2 : ((words1.drop 24).take 24).all (fun c => isCode c || c.before args0 about1) = true := by decide +kernel
set_option maxRecDepth 65536 in
theorem w_t3 : (((words1.drop 24).drop 24).take 24).all (fun c => isCode c || c.before args0 about1) = true := by decide +kernel
set_option maxRecDepth 65536 in
theorem w_t4 : ((((words1.drop 24).drop 24).drop 24).take 24).all (fun c => isCode c || c.before args0 about1) = true := by decide +kernel
set_option maxRecDepth 65536 in
theorem w_t5 : (((((words1.drop 24).drop 24).drop 24).drop 24).take 24).all (fun c => isCode c || c.before args0 about1) = true := by decide +kernel
set_option maxRecDepth 65536 in
theorem w_t6 : ((((((words1.drop 24).drop 24).drop 24).drop 24).drop 24).take 24).all (fun c => isCode c || c.before args0 about1) = true := by decide +kernel
set_option maxRecDepth 65536 in
theorem w_t7 : (((((((words1.drop 24).drop 24).drop 24).drop 24).drop 24).drop 24).take 24).all (fun c => isCode c || c.before args0 about1) = true := by decide +kernel
set_option maxRecDepth 65536 in
theorem w_t8 : ((((((((words1.drop 24).drop 24).drop 24).drop 24).drop 24).drop 24).drop 24).take 24).all (fun c => isCode c || c.before args0 about1) = true := by decide +kernel
set_option maxRecDepth 65536 in
theorem w_t9 : (((((((((words1.drop 24).drop 24).drop 24).drop 24).drop 24).drop 24).drop 24).drop 24).take 24).all (fun c => isCode c || c.before args0 about1) = true := by decide +kernel
set_option maxRecDepth 65536 in
theorem w_t10 : ((((((((((words1.drop 24).drop 24).drop 24).drop 24).drop 24).drop 24).drop 24).drop 24).drop 24).take 24).all (fun c => isCode c || c.before args0 about1) = true := by decide +kernel
set_option maxRecDepth 65536 in
theorem w_t11 : ((((((((((words1.drop 24).drop 24).drop 24).drop 24).drop 24).drop 24).drop 24).drop 24).drop 24).drop 24).all (fun c => isCode c || c.before args0 about1) = true := by decide +kernel
theorem w_tables : (allAtoms (Jvm.Cond.code x code maxLocals ret :: tables_1)).before args0 about1 = true := by
  rw [allAtoms_all]
  show words1.all (fun c => c.before args0 about1) = true
  refine all_split ?_ w_codes
  rw [← List.take_append_drop 24 words1, List.all_append, w_t1, ← List.take_append_drop 24 (words1.drop 24), List.all_append, w_t2, ← List.take_append_drop 24 ((words1.drop 24).drop 24), List.all_append, w_t3, ← List.take_append_drop 24 (((words1.drop 24).drop 24).drop 24), List.all_append, w_t4, ← List.take_append_drop 24 ((((words1.drop 24).drop 24).drop 24).drop 24), List.all_append, w_t5, ← List.take_append_drop 24 (((((words1.drop 24).drop 24).drop 24).drop 24).drop 24), List.all_append, w_t6, ← List.take_append_drop 24 ((((((words1.drop 24).drop 24).drop 24).drop 24).drop 24).drop 24), List.all_append, w_t7, ← List.take_append_drop 24 (((((((words1.drop 24).drop 24).drop 24).drop 24).drop 24).drop 24).drop 24), List.all_append, w_t8, ← List.take_append_drop 24 ((((((((words1.drop 24).drop 24).drop 24).drop 24).drop 24).drop 24).drop 24).drop 24), List.all_append, w_t9, ← List.take_append_drop 24 (((((((((words1.drop 24).drop 24).drop 24).drop 24).drop 24).drop 24).drop 24).drop 24).drop 24), List.all_append, w_t10, w_t11]
  rfl
set_option maxRecDepth 65536 in
theorem w_rest : rest_1_c.before args0 about1 = true := by decide +kernel
set_option maxRecDepth 65536 in
theorem w_case : (Jvm.Cond.and given_1 narrow_1).before args0 about1 = true := by decide +kernel
set_option maxRecDepth 65536 in
theorem w_consts : constsHeld consts_1 about1 := Jvm.Lit.constsHeldB_iff.mp (by decide +kernel)
theorem w_applies : (headSpec (Jvm.Cond.code x code maxLocals ret :: tables_1) room_1).applies x e0.platform about1 = true :=
  (Spec.applies_iff w_frames).mpr ⟨w_running, w_runnable, w_alone, w_named, w_hears, w_ripe, w_room, w_tables⟩
theorem atStart : AtStart classFile x code maxLocals ret World_1 tables_1 room_1 Calls_1 rest_1 Pre_1 launch0 p0 e0 about1 theMethod args0 below0 :=
  ⟨lists_1, trivial, launch0.admits_env _ _ _, launch0.least_env, fairChoices_fair.cas, fairChoices_fair.clock, w_frames, w_args, w_heap, w_applies, ⟨w_consts, trivial⟩, w_rest, w_case⟩
end start1
theorem witness_1 : WitnessClaimed_1 := ⟨start1.p0, start1.e0, start1.about1, start1.theMethod, start1.args0, start1.below0, start1.atStart⟩
end Jvm.Pilot.@@N@@
